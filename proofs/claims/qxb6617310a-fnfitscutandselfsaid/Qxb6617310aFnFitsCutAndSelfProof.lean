import Derived.Test.Qxb6617310aRows
import Derived.Test.Qxb6617310aFits
import Derived.BigQuiet
import Derived.WalkKit
import Derived.ProofKit
import Derived.OpenShut
import Derived.ShutString
namespace Go.Proofs.Qxb6617310a.fnFitsCutAndSelf
open Go.ChangeShapes Go.WideShapes Go.ChangeAt Go.RowKit
open Go.ChangeMaps (open_string shut_string)
set_option linter.unusedVariables false      -- a walk need not use every 'w<i>' (that an integer argument fits its kind)

theorem own : ownKnob Try.prog.godebug = none := by kernel_rfl

/-! ### STEP 1: THE WALK: the Go text returns true. 'Grown w w'': the world has at most new blocks (Derived/RowKit3.lean). Part the cases AHEAD of 'go_enter' where a test parts the walk; take each callee by a contract of your own. -/
set_option maxHeartbeats 1000000 in
theorem walk (a0 : ByteArray) (a1 : ByteArray) (a2 : Int) (w0 : a0.size ≤ maxLen) (w1 : a1.size ≤ maxLen) (w2 : (Lit.int .i64 a2).wf = true) (w : World) :
    Calls Try.prog 4 #[.string a0, .string a1, .int .i64 a2] w fun e w' => e = .returned (.bool true) ∧ Grown w w' := by
  unfold maxLen at w0 w1
  by_cases hb : a0.size + a1.size ≤ 1048576
  · have hB : decide (a0.size + a1.size ≤ 1048576) = true := by simpa using hb
    by_cases hs : a0.size ≤ 524288
    · by_cases hl : a1.size ≤ 524288
      · by_cases he : a0.size = a1.size
        · by_cases hk0 : 0 ≤ a2
          · by_cases hk : a2 ≤ a0.size
            · obtain ⟨k, rfl⟩ := Int.eq_ofNat_of_zero_le hk0
              have hk' : k ≤ a0.size := by omega
              have hkl : k ≤ a1.size := by omega
              have he' : ((a0.size : Int) != (a1.size : Int)) = false := by simp; omega
              have HZ : Hid (a0.size = a1.size) := he
              have hcut := fitsL_cutB a0 a1 he k
              have HS : Hid (fitsL a1.data.toList a1.data.toList = true) := fitsL_self _
              clear he
              generalize hA : fitsL a0.data.toList a1.data.toList = A at hcut
              generalize hL : fitsL (a0.extract 0 k).data.toList (a1.extract 0 k).data.toList = L at hcut
              generalize hR : fitsL (a0.extract k a0.size).data.toList (a1.extract k a1.size).data.toList = R at hcut
              have HA : Hid (fitsL a0.data.toList a1.data.toList = A) := hA
              have HL : Hid (fitsL (a0.extract 0 k).data.toList (a1.extract 0 k).data.toList = L) := hL
              have HR : Hid (fitsL (a0.extract k a0.size).data.toList (a1.extract k a1.size).data.toList = R) := hR
              have hx0 : (a0.extract 0 k).size ≤ (a1.extract 0 k).size := by simp; omega
              have hx1 : (a1.extract 0 k).size ≤ maxLen := by simp [maxLen]; omega
              have hy0 : (a0.extract k a0.size).size ≤ (a1.extract k a1.size).size := by have := HZ.out; simp; omega
              have hy1 : (a1.extract k a1.size).size ≤ maxLen := by simp [maxLen]; omega
              have HC : Hid (A = (L && R)) := hcut
              clear hA hL hR hcut
              go_enter Try.func4, Try.ntmps4
              go_wp2_with (go_at_call 9; refine (zzbytes9_any _ _ _ _ (by unfold maxLen; omega) (by unfold maxLen; omega)).mono ?_; rintro e w' ⟨rfl, rfl⟩; rw [hB])
              refine (zzfits_eq _ _ _ _ (by have := HZ.out; omega) (by unfold maxLen; omega) HA).mono ?_
              rintro e w1 ⟨rfl, hw1⟩
              have Hw1 : Hid (∃ n, w1 = w'.drewN n) := hw1
              clear hw1
              go_wp2
              go_quiet ((go_at_call 10; exact Calls.quiet_of (zzfits_eq _ _ _ _ hx0 hx1 HL)))
              generalize hq2 : w1.drewN nq = w2
              have Hw2 : Hid (w1.drewN nq = w2) := hq2
              clear hq2
              go_wp2
              go_quiet ((go_at_call 10; exact Calls.quiet_of (zzfits_eq _ _ _ _ hy0 hy1 HR)))
              generalize hq3 : w2.drewN nq = w3
              have Hw3 : Hid (w2.drewN nq = w3) := hq3
              clear hq3
              go_wp2_with fail
              refine (zzfits_eq _ _ _ _ (Nat.le_refl _) (by unfold maxLen; omega) HS).mono ?_
              rintro e w4 ⟨rfl, hw4⟩
              have hgr : Grown w' w4 := by
                obtain ⟨n1, rfl⟩ := Hw1.out
                obtain ⟨n4, rfl⟩ := hw4
                rw [← Hw3.out, ← Hw2.out]
                exact grown_drewN _ (grown_drewN _ (grown_drewN _ (grown_drewN _ (Grown.refl _))))
              clear hw4
              have hC := HC.out
              subst hC
              cases L <;> cases R
              all_goals
                go_wp2
                go_ret
                exact ⟨rfl, hgr⟩
            · go_enter Try.func4, Try.ntmps4
              go_wp2_with (go_at_call 9; refine (zzbytes9_any _ _ _ _ (by unfold maxLen; omega) (by unfold maxLen; omega)).mono ?_; rintro e w' ⟨rfl, rfl⟩; rw [hB])
              go_ret
              exact ⟨rfl, Grown.refl _⟩
          · go_enter Try.func4, Try.ntmps4
            go_wp2_with (go_at_call 9; refine (zzbytes9_any _ _ _ _ (by unfold maxLen; omega) (by unfold maxLen; omega)).mono ?_; rintro e w' ⟨rfl, rfl⟩; rw [hB])
            go_ret
            exact ⟨rfl, Grown.refl _⟩
        · have he' : ((a0.size : Int) != (a1.size : Int)) = true := by simp; omega
          go_enter Try.func4, Try.ntmps4
          go_wp2_with (go_at_call 9; refine (zzbytes9_any _ _ _ _ (by unfold maxLen; omega) (by unfold maxLen; omega)).mono ?_; rintro e w' ⟨rfl, rfl⟩; rw [hB])
          go_ret
          exact ⟨rfl, Grown.refl _⟩
      · go_enter Try.func4, Try.ntmps4
        go_wp2_with (go_at_call 9; refine (zzbytes9_any _ _ _ _ (by unfold maxLen; omega) (by unfold maxLen; omega)).mono ?_; rintro e w' ⟨rfl, rfl⟩; rw [hB])
        go_ret
        exact ⟨rfl, Grown.refl _⟩
    · go_enter Try.func4, Try.ntmps4
      go_wp2_with (go_at_call 9; refine (zzbytes9_any _ _ _ _ (by unfold maxLen; omega) (by unfold maxLen; omega)).mono ?_; rintro e w' ⟨rfl, rfl⟩; rw [hB])
      go_ret
      exact ⟨rfl, Grown.refl _⟩
  · have hB : decide (a0.size + a1.size ≤ 1048576) = false := by simpa using hb
    go_enter Try.func4, Try.ntmps4
    go_wp2_with (go_at_call 9; refine (zzbytes9_any _ _ _ _ (by unfold maxLen; omega) (by unfold maxLen; omega)).mono ?_; rintro e w' ⟨rfl, rfl⟩; rw [hB])
    go_ret
    exact ⟨rfl, Grown.refl _⟩

/-! ### THE ROW's STEP: WRITTEN OUT: LEAVE IT -/
set_option maxRecDepth 100000 in
theorem lifted (os : Os) (started : os.Started) (H : Type) (enc : TypeId × Value → H) :
    ReturnsInHanded {} Try.checked os 4 .any (Rows.fnFitsCutAndSelfSpec.pre6 enc Try.prog Try.f4 Rows.fnFitsCutAndSelfRow.domain false) (Rows.fnFitsCutAndSelfSpec.post enc Try.prog Try.f4 false true false false) := by
  refine returnsInHanded_of_change (C := Try.checked) own started (by kernel_rfl) Try.func4
    (ChangeSpec.witness6 (enc := enc) (C := Try.checked) false ⟨#[], #[.string ByteArray.empty, .string ByteArray.empty, .int .i64 0], []⟩ 8 (by kernel_rfl) (by kernel_rfl) (by kernel_rfl) (by kernel_rfl)) ?_
  intro W base args ds gs before hval0 hW hcnd _
  have hval : ∀ (j : Nat) t v, Try.f4.params[j]? = some t → args[j]? = some v → Value.okWide Try.prog W .any base t v := hval0
  have hW' := hW
  obtain ⟨p, q, hA0, hV, rfl, hfz, hnd⟩ := hW
  have hA : DataW.TrodAll enc Try.prog W 0 (fun _ => true) true Try.f4.params.toList args.toList ds p := hA0
  rw [Try.params4] at hA hval
  obtain ⟨v0, vs0, d0, ds0, p0, q0, hargs, rfl, rfl, h0, r0⟩ := trodAll_cons hA
  obtain ⟨v1, vs1, d1, ds1, p1, q1, rfl, rfl, rfl, h1, r1⟩ := trodAll_cons r0
  obtain ⟨v2, vs2, d2, ds2, p2, q2, rfl, rfl, rfl, h2, r2⟩ := trodAll_cons r1
  obtain ⟨rfl, rfl, rfl⟩ := trodAll_nil r2
  obtain rfl : args = #[v0, v1, v2] := by cases args; simp_all
  obtain ⟨rfl, rfl⟩ := trodVars_none hV
  obtain ⟨a0, rfl, rfl, rfl, w0⟩ := open_string Try.underlying9 (hval 0 9 v0 rfl rfl) h0
  obtain ⟨a1, rfl, rfl, rfl, w1⟩ := open_string Try.underlying9 (hval 1 9 v1 rfl rfl) h1
  obtain ⟨a2, rfl, rfl, rfl, w2⟩ := open_int Try.underlying3 (hval 2 3 v2 rfl rfl) h2
  clear hA0 hval0
  simp only [List.append_nil] at hW'
  refine (walk a0 a1 a2 w0 w1 w2 W).mono fun e W' ⟨he, hg⟩ => ?_
  subst he
  exact ⟨_, rfl, post_of_same (pa := []) (pv := []) hW' (fun _ _ _ => (trodAll_cons_mk (shut_bool Try.underlying4 _) trodAll_mk0)) (fun sp _ => (trodAll_cons_mk (shut_string Try.underlying9 w0) (trodAll_cons_mk (shut_string Try.underlying9 w1) (trodAll_cons_mk (shut_int Try.underlying3 w2) trodAll_mk0)))) (fun _ _ => rfl) rfl
    (hg.frame _) hg.2.1 (ok_one (by kernel_rfl) rfl (okWide_bool_mk Try.underlying4 _))⟩

theorem over : Rows.fnFitsCutAndSelfRow.holds Try.pinned (OpenSpec.ofChange Rows.fnFitsCutAndSelfSpec) :=
  OpenClaim.holds_of_wide 4 Try.f4 rfl rfl rfl rfl rfl rfl rfl ⟨rfl, rfl, rfl, rfl, rfl⟩ rfl rfl rfl rfl rfl (by kernel_rfl) Try.func4 (by kernel_rfl)
    (of_decide_eq_true (by kernel_rfl)) (by unfold Func.isWrapper; first | (rw [if_pos (by decide +kernel)]; kernel_rfl) | (rw [if_neg (by decide +kernel)]; exact ⟨rfl, rfl⟩))
    (fun os started H enc _ => lifted os started H enc)

/-- ████ THE STATEMENT ████ -/
theorem proved : Rows.FnFitsCutAndSelfSaid :=
  over
end Go.Proofs.Qxb6617310a.fnFitsCutAndSelf
