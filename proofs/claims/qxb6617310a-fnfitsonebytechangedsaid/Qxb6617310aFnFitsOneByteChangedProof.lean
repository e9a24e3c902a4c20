import Derived.Test.Qxb6617310aRows
import Derived.Test.Qxb6617310aBuf
import Derived.WalkKit
import Derived.ProofKit
import Derived.OpenShut
import Derived.ShutString
namespace Go.Proofs.Qxb6617310a.fnFitsOneByteChanged
open Go.ChangeShapes Go.WideShapes Go.ChangeAt Go.RowKit
open Go.ChangeMaps (open_string shut_string)
set_option linter.unusedVariables false      -- a walk need not use every 'w<i>' (that an integer argument fits its kind)

theorem own : ownKnob Try.prog.godebug = none := by kernel_rfl

/-! ### STEP 1: THE WALK: the Go text returns true. 'Grown w w'': the world has at most new blocks (Derived/RowKit3.lean). Part the cases AHEAD of 'go_enter' where a test parts the walk; take each callee by a contract of your own. -/
set_option maxHeartbeats 1000000 in
theorem walk (a0 : ByteArray) (a1 : Int) (a2 : Int) (w0 : a0.size ≤ maxLen) (w1 : (Lit.int .i64 a1).wf = true) (w2 : (Lit.int .u8 a2).wf = true) (w : World) :
    Calls Try.prog 5 #[.string a0, .int .i64 a1, .int .u8 a2] w fun e w' => e = .returned (.bool true) ∧ Grown w w' := by
  unfold maxLen at w0
  obtain ⟨b, rfl⟩ := u8_of w2
  by_cases hb : a0.size ≤ 1048576
  · have hB : decide (a0.size ≤ 1048576) = true := by simpa using hb
    by_cases hk0 : 0 ≤ a1
    · by_cases hk : a1 < a0.size
      · obtain ⟨k, rfl⟩ := Int.eq_ofNat_of_zero_le hk0
        have hk' : k < a0.size := by omega
        have hmk := make8 a0.size (by omega)
        go_enter Try.func5, Try.ntmps5
        go_wp2_with (go_at_call 11; refine (zzbytes11_any _ _ _ _ (by unfold maxLen; omega)).mono ?_; rintro e w' ⟨rfl, rfl⟩; rw [hB])
        go_loopw [8] (fun i wr => ∃ j : Nat, j ≤ a0.size ∧ i = .int .i64 j ∧ Buf w' wr w'.heap.size 5 (u8s (cpy a0.data.toList j))) (fun i _ => a0.size - (intOf i).toNat)
        case atStart => exact ⟨0, Nat.zero_le _, rfl, by rw [cpy_zero]; exact Buf.mk0 (Grown.refl _) 5 _⟩
        case round =>
          obtain ⟨j, hj, rfl, hbuf⟩ := hrel
          by_cases hlt : j < a0.size
          · have hcell := hbuf.cell j
            rw [u8s_at _ j (by rw [cpy_len _ _ (by simpa using hj)]; simpa using hlt)] at hcell
            have hfz := hbuf.frozen j
            have HB : Hid (Buf w' (wr.setCell ⟨w'.heap.size, j, none⟩ (.int .u8 (a0[j].toNat : Int))) w'.heap.size 5 (u8s (cpy a0.data.toList (j + 1)))) := by
              have := hbuf.set j (.int .u8 (a0[j].toNat : Int))
              rw [u8s_set] at this
              have e := cpy_set a0.data.toList j (by simpa using hlt)
              have e2 : (a0.data.toList)[j]'(by simpa using hlt) = a0[j] := rfl
              rw [e2] at e
              rw [e] at this; exact this
            clear hbuf
            go_wp2
            go_roundw
            case rel => exact ⟨j + 1, by omega, by go_num, HB.out⟩
            case measure => simp [intOf]; omega
          · have hje : j = a0.data.toList.length := by simp; omega
            rw [hje, cpy_all] at hbuf
            clear hje
            have hcell := hbuf.cell k
            rw [u8s_at _ k (by simpa using hk')] at hcell
            have hfz := hbuf.frozen k
            have hset := hbuf.set k (.int .u8 (b.toNat : Int))
            rw [u8s_set] at hset
            have hcv := conv8 _ hset a0.size a0.size (by simp)
            have HB : Hid (Buf w' (wr.setCell ⟨w'.heap.size, k, none⟩ (.int .u8 (b.toNat : Int))) w'.heap.size 5 (u8s (a0.data.toList.set k b))) := hset
            have HS : Hid (fitsL (strB (a0.data.toList.set k b)).data.toList a0.data.toList = fitB b a0[k]) := by
              show fitsL _ _ = _
              rw [strB_data]; exact fitsL_set a0.data.toList k (by simpa using hk') b
            have hsz : (strB (a0.data.toList.set k b)).size ≤ a0.size := by rw [strB_size]; simp
            have hmx : a0.size ≤ maxLen := by unfold maxLen; omega
            generalize strB (a0.data.toList.set k b) = S at hcv HS hsz
            clear hbuf hset
            have hF : fitB b a0[k] = if (a0[k].toNat : Int) = 48 then decide (48 ≤ (b.toNat : Int) ∧ (b.toNat : Int) ≤ 57) else decide ((b.toNat : Int) = (a0[k].toNat : Int)) := by
              unfold fitB
              by_cases h : a0[k].toNat = 48
              · rw [if_pos h, if_pos (by omega), decide_eq_decide]; omega
              · rw [if_neg h, if_neg (by omega), decide_eq_decide]; omega
            have HF : Hid (fitB b a0[k] = if (a0[k].toNat : Int) = 48 then decide (48 ≤ (b.toNat : Int) ∧ (b.toNat : Int) ≤ 57) else decide ((b.toNat : Int) = (a0[k].toNat : Int))) := hF
            clear hF
            by_cases h48 : (a0[k].toNat : Int) = 48
            · have h48' : ((a0[k].toNat : Int) == 48) = true := by simpa using h48
              have HG : Hid (fitsL S.data.toList a0.data.toList = decide (48 ≤ (b.toNat : Int) ∧ (b.toNat : Int) ≤ 57)) := by
                show _ = _
                rw [HS.out, HF.out, if_pos h48]
              clear h48
              by_cases hlo : 48 ≤ (b.toNat : Int)
              · by_cases hhi : (b.toNat : Int) ≤ 57
                · have HR : Hid (fitsL S.data.toList a0.data.toList = true) := by
                    show _ = _
                    rw [HG.out]; simp; omega
                  go_wp2_with (go_at_call 10; refine (zzfits_eq _ _ _ _ hsz hmx HR).mono ?_; rintro e w4 ⟨rfl, n, rfl⟩)
                  go_ret
                  exact ⟨rfl, grown_drewN _ HB.out.grown⟩
                · have HR : Hid (fitsL S.data.toList a0.data.toList = false) := by
                    show _ = _
                    rw [HG.out]; simp; omega
                  go_wp2_with (go_at_call 10; refine (zzfits_eq _ _ _ _ hsz hmx HR).mono ?_; rintro e w4 ⟨rfl, n, rfl⟩)
                  go_ret
                  exact ⟨rfl, grown_drewN _ HB.out.grown⟩
              · have HR : Hid (fitsL S.data.toList a0.data.toList = false) := by
                  show _ = _
                  rw [HG.out]; simp; omega
                go_wp2_with (go_at_call 10; refine (zzfits_eq _ _ _ _ hsz hmx HR).mono ?_; rintro e w4 ⟨rfl, n, rfl⟩)
                go_ret
                exact ⟨rfl, grown_drewN _ HB.out.grown⟩
            · have h48' : ((a0[k].toNat : Int) == 48) = false := by simpa using h48
              have HG : Hid (fitsL S.data.toList a0.data.toList = decide ((b.toNat : Int) = (a0[k].toNat : Int))) := by
                show _ = _
                rw [HS.out, HF.out, if_neg h48]
              clear h48
              by_cases he : (b.toNat : Int) = (a0[k].toNat : Int)
              · have he' : ((b.toNat : Int) == (a0[k].toNat : Int)) = true := by simpa using he
                have HR : Hid (fitsL S.data.toList a0.data.toList = true) := by
                  show _ = _
                  rw [HG.out]; simpa using he
                clear he
                go_wp2_with (go_at_call 10; refine (zzfits_eq _ _ _ _ hsz hmx HR).mono ?_; rintro e w4 ⟨rfl, n, rfl⟩)
                go_ret
                exact ⟨rfl, grown_drewN _ HB.out.grown⟩
              · have he' : ((b.toNat : Int) == (a0[k].toNat : Int)) = false := by simpa using he
                have HR : Hid (fitsL S.data.toList a0.data.toList = false) := by
                  show _ = _
                  rw [HG.out]; simpa using he
                clear he
                go_wp2_with (go_at_call 10; refine (zzfits_eq _ _ _ _ hsz hmx HR).mono ?_; rintro e w4 ⟨rfl, n, rfl⟩)
                go_ret
                exact ⟨rfl, grown_drewN _ HB.out.grown⟩
      · go_enter Try.func5, Try.ntmps5
        go_wp2_with (go_at_call 11; refine (zzbytes11_any _ _ _ _ (by unfold maxLen; omega)).mono ?_; rintro e w' ⟨rfl, rfl⟩; rw [hB])
        go_ret
        exact ⟨rfl, Grown.refl _⟩
    · go_enter Try.func5, Try.ntmps5
      go_wp2_with (go_at_call 11; refine (zzbytes11_any _ _ _ _ (by unfold maxLen; omega)).mono ?_; rintro e w' ⟨rfl, rfl⟩; rw [hB])
      go_ret
      exact ⟨rfl, Grown.refl _⟩
  · have hB : decide (a0.size ≤ 1048576) = false := by simpa using hb
    go_enter Try.func5, Try.ntmps5
    go_wp2_with (go_at_call 11; refine (zzbytes11_any _ _ _ _ (by unfold maxLen; omega)).mono ?_; rintro e w' ⟨rfl, rfl⟩; rw [hB])
    go_ret
    exact ⟨rfl, Grown.refl _⟩

/-! ### THE ROW's STEP: WRITTEN OUT: LEAVE IT -/
set_option maxRecDepth 100000 in
theorem lifted (os : Os) (started : os.Started) (H : Type) (enc : TypeId × Value → H) :
    ReturnsInHanded {} Try.checked os 5 .any (Rows.fnFitsOneByteChangedSpec.pre6 enc Try.prog Try.f5 Rows.fnFitsOneByteChangedRow.domain false) (Rows.fnFitsOneByteChangedSpec.post enc Try.prog Try.f5 false true false false) := by
  refine returnsInHanded_of_change (C := Try.checked) own started (by kernel_rfl) Try.func5
    (ChangeSpec.witness6 (enc := enc) (C := Try.checked) false ⟨#[], #[.string ByteArray.empty, .int .i64 0, .int .u8 0], []⟩ 8 (by kernel_rfl) (by kernel_rfl) (by kernel_rfl) (by kernel_rfl)) ?_
  intro W base args ds gs before hval0 hW hcnd _
  have hval : ∀ (j : Nat) t v, Try.f5.params[j]? = some t → args[j]? = some v → Value.okWide Try.prog W .any base t v := hval0
  have hW' := hW
  obtain ⟨p, q, hA0, hV, rfl, hfz, hnd⟩ := hW
  have hA : DataW.TrodAll enc Try.prog W 0 (fun _ => true) true Try.f5.params.toList args.toList ds p := hA0
  rw [Try.params5] at hA hval
  obtain ⟨v0, vs0, d0, ds0, p0, q0, hargs, rfl, rfl, h0, r0⟩ := trodAll_cons hA
  obtain ⟨v1, vs1, d1, ds1, p1, q1, rfl, rfl, rfl, h1, r1⟩ := trodAll_cons r0
  obtain ⟨v2, vs2, d2, ds2, p2, q2, rfl, rfl, rfl, h2, r2⟩ := trodAll_cons r1
  obtain ⟨rfl, rfl, rfl⟩ := trodAll_nil r2
  obtain rfl : args = #[v0, v1, v2] := by cases args; simp_all
  obtain ⟨rfl, rfl⟩ := trodVars_none hV
  obtain ⟨a0, rfl, rfl, rfl, w0⟩ := open_string Try.underlying9 (hval 0 9 v0 rfl rfl) h0
  obtain ⟨a1, rfl, rfl, rfl, w1⟩ := open_int Try.underlying3 (hval 1 3 v1 rfl rfl) h1
  obtain ⟨a2, rfl, rfl, rfl, w2⟩ := open_int Try.underlying5 (hval 2 5 v2 rfl rfl) h2
  clear hA0 hval0
  simp only [List.append_nil] at hW'
  refine (walk a0 a1 a2 w0 w1 w2 W).mono fun e W' ⟨he, hg⟩ => ?_
  subst he
  exact ⟨_, rfl, post_of_same (pa := []) (pv := []) hW' (fun _ _ _ => (trodAll_cons_mk (shut_bool Try.underlying4 _) trodAll_mk0)) (fun sp _ => (trodAll_cons_mk (shut_string Try.underlying9 w0) (trodAll_cons_mk (shut_int Try.underlying3 w1) (trodAll_cons_mk (shut_int Try.underlying5 w2) trodAll_mk0)))) (fun _ _ => rfl) rfl
    (hg.frame _) hg.2.1 (ok_one (by kernel_rfl) rfl (okWide_bool_mk Try.underlying4 _))⟩

theorem over : Rows.fnFitsOneByteChangedRow.holds Try.pinned (OpenSpec.ofChange Rows.fnFitsOneByteChangedSpec) :=
  OpenClaim.holds_of_wide 5 Try.f5 rfl rfl rfl rfl rfl rfl rfl ⟨rfl, rfl, rfl, rfl, rfl⟩ rfl rfl rfl rfl rfl (by kernel_rfl) Try.func5 (by kernel_rfl)
    (of_decide_eq_true (by kernel_rfl)) (by unfold Func.isWrapper; first | (rw [if_pos (by decide +kernel)]; kernel_rfl) | (rw [if_neg (by decide +kernel)]; exact ⟨rfl, rfl⟩))
    (fun os started H enc _ => lifted os started H enc)

/-- ████ THE STATEMENT ████ -/
theorem proved : Rows.FnFitsOneByteChangedSaid :=
  over
end Go.Proofs.Qxb6617310a.fnFitsOneByteChanged
