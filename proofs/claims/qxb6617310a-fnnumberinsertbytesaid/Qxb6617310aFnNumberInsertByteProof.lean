import Derived.Test.Qxb6617310aRows
import Derived.Test.Qxb6617310aBuf
import Derived.Test.Qxb6617310aNumber
import Derived.WalkKit
import Derived.ProofKit
import Derived.OpenShut
import Derived.ShutString
namespace Go.Proofs.Qxb6617310a.fnNumberInsertByte
open Go.ChangeShapes Go.WideShapes Go.ChangeAt Go.RowKit
open Go.ChangeMaps (open_string shut_string)
set_option linter.unusedVariables false      -- a walk need not use every 'w<i>' (that an integer argument fits its kind)

theorem own : ownKnob Try.prog.godebug = none := by kernel_rfl

/-! ### STEP 1: THE WALK: the Go text returns true. 'Grown w w'': the world has at most new blocks (Derived/RowKit3.lean). Part the cases AHEAD of 'go_enter' where a test parts the walk; take each callee by a contract of your own. -/
set_option maxHeartbeats 1000000 in
theorem walk (a0 : ByteArray) (a1 : Int) (a2 : Int) (w0 : a0.size ≤ maxLen) (w1 : (Lit.int .i64 a1).wf = true) (w2 : (Lit.int .u8 a2).wf = true) (w : World) :
    Calls Try.prog 6 #[.string a0, .int .i64 a1, .int .u8 a2] w fun e w' => e = .returned (.bool true) ∧ Grown w w' := by
  unfold maxLen at w0
  obtain ⟨d, rfl⟩ := u8_of w2
  by_cases hb : a0.size ≤ 1048576
  · have hB : decide (a0.size ≤ 1048576) = true := by simpa using hb
    by_cases hk0 : 0 ≤ a1
    · by_cases hk : a1 ≤ a0.size
      · obtain ⟨k, rfl⟩ := Int.eq_ofNat_of_zero_le hk0
        have hk' : k ≤ a0.size := by omega
        have hmk0 := make8 (a0.size + 1) (by omega)
        have hmk : ∀ w, (Instr.makeSlice 28 (.int .i64 ((a0.size : Int) + 1)) (.int .i64 ((a0.size : Int) + 1))).run Try.prog w = .ok (.slice (some ⟨w.heap.size, 0, none⟩) (a0.size + 1) (a0.size + 1)) (w.alloc (.cells (zero8 (a0.size + 1)) 5)) := hmk0
        clear hmk0
        have HJ : Hid ((insB a0.data.toList k d).length = a0.size + 1) := by show _ = _; rw [insB_len _ _ _ (by simpa using hk')]; simp
        go_enter Try.func6, Try.ntmps6
        go_wp2_with (go_at_call 12; refine (zzbytes12_any _ _ _ _ (by unfold maxLen; omega)).mono ?_; rintro e w' ⟨rfl, rfl⟩; rw [hB])
        go_loopw [10] (fun i wr => ∃ j : Nat, j ≤ k ∧ i = .int .i64 j ∧ Buf w' wr w'.heap.size 5 (u8s (cpy (insB a0.data.toList k d) j))) (fun i _ => k - (intOf i).toNat)
        case atStart => exact ⟨0, Nat.zero_le _, rfl, by rw [cpy_zero, HJ.out]; exact Buf.mk0 (Grown.refl _) 5 _⟩
        case round =>
          obtain ⟨j, hj, rfl, hbuf⟩ := hrel
          by_cases hlt : j < k
          · have hcell := hbuf.cell j
            rw [u8s_at _ j (by rw [cpy_len _ _ (by rw [HJ.out]; omega), HJ.out]; omega)] at hcell
            have hfz := hbuf.frozen j
            have hlt' : j < a0.size := by omega
            have HB : Hid (Buf w' (wr.setCell ⟨w'.heap.size, j, none⟩ (.int .u8 (a0[j].toNat : Int))) w'.heap.size 5 (u8s (cpy (insB a0.data.toList k d) (j + 1)))) := by
              have := hbuf.set j (.int .u8 (a0[j].toNat : Int))
              rw [u8s_set] at this
              have e := cpy_set (insB a0.data.toList k d) j (by rw [HJ.out]; omega)
              rw [insB_lo _ _ _ (by simpa using hk') j hlt] at e
              have e2 : (a0.data.toList)[j]'(by simpa using hlt') = a0[j] := rfl
              rw [e2] at e
              rw [e] at this; exact this
            clear hbuf
            go_wp2
            go_roundw
            case rel => exact ⟨j + 1, by omega, by go_num, HB.out⟩
            case measure => simp [intOf]; omega
          · have hje : j = k := by omega
            subst hje
            have hcell := hbuf.cell j
            rw [u8s_at _ j (by rw [cpy_len _ _ (by rw [HJ.out]; omega), HJ.out]; omega)] at hcell
            have hfz := hbuf.frozen j
            have hset := hbuf.set j (.int .u8 (d.toNat : Int))
            have e := cpy_set (insB a0.data.toList j d) j (by rw [HJ.out]; omega)
            rw [insB_at _ _ _ (by simpa using hk')] at e
            rw [u8s_set, e] at hset
            have HB : Hid (Buf w' (wr.setCell ⟨w'.heap.size, j, none⟩ (.int .u8 (d.toNat : Int))) w'.heap.size 5 (u8s (cpy (insB a0.data.toList j d) (j + 1)))) := hset
            clear e hset hbuf
            go_wp2
            go_loopw [11] (fun i wr => ∃ t : Nat, j ≤ t ∧ t ≤ a0.size ∧ i = .int .i64 t ∧ Buf w' wr w'.heap.size 5 (u8s (cpy (insB a0.data.toList j d) (t + 1)))) (fun i _ => a0.size - (intOf i).toNat)
            case atStart => exact ⟨j, Nat.le_refl _, hk', rfl, HB.out⟩
            case round =>
              clear hcell hfz HB
              obtain ⟨t, ht0, ht, rfl, hbuf⟩ := hrel
              by_cases hlt2 : t < a0.size
              · have hcell := hbuf.cell (t + 1)
                rw [u8s_at _ (t + 1) (by rw [cpy_len _ _ (by rw [HJ.out]; omega), HJ.out]; omega)] at hcell
                have hfz := hbuf.frozen (t + 1)
                have HB : Hid (Buf w' (wr.setCell ⟨w'.heap.size, t + 1, none⟩ (.int .u8 (a0[t].toNat : Int))) w'.heap.size 5 (u8s (cpy (insB a0.data.toList j d) (t + 1 + 1)))) := by
                  have := hbuf.set (t + 1) (.int .u8 (a0[t].toNat : Int))
                  rw [u8s_set] at this
                  have e := cpy_set (insB a0.data.toList j d) (t + 1) (by rw [HJ.out]; omega)
                  rw [insB_hi _ _ _ (by simpa using hk') t ht0 (by simpa using hlt2)] at e
                  have e2 : (a0.data.toList)[t]'(by simpa using hlt2) = a0[t] := rfl
                  rw [e2] at e
                  rw [e] at this; exact this
                clear hbuf
                go_wp2
                go_roundw
                case rel => exact ⟨t + 1, by omega, by omega, by go_num, HB.out⟩
                case measure => simp [intOf]; omega
              · have hte : t + 1 = (insB a0.data.toList j d).length := by rw [HJ.out]; omega
                rw [hte, cpy_all] at hbuf
                clear hte
                have hcv := conv8 _ hbuf (a0.size + 1) (a0.size + 1) HJ.out
                have hmj : (strB (insB a0.data.toList j d)).size ≤ maxLen := by rw [strB_size, HJ.out]; unfold maxLen; omega
                have HS : Hid (numL (strB (insB a0.data.toList j d)).data.toList = numL (insB a0.data.toList j d)) := by show _ = _; rw [strB_data]
                generalize strB (insB a0.data.toList j d) = S at hcv HS hmj
                have HB : Hid (Buf w' wr w'.heap.size 5 (u8s (insB a0.data.toList j d))) := hbuf
                clear hbuf
                go_wp2
                have HQ : Hid ((a0.extract j a0.size).data.toList = a0.data.toList.drop j) := ext1 a0 j
                have hqs : (a0.extract j a0.size).size ≤ 1048576 := by simp; omega
                have HP : Hid ((a0.extract 0 j).data.toList = a0.data.toList.take j) := ext0 a0 j
                have hps : (a0.extract 0 j).size ≤ 1048576 := by simp; omega
                generalize a0.extract j a0.size = Qs at HQ hqs ⊢
                generalize a0.extract 0 j = Ps at HP hps ⊢
                go_loop [13, 14] (fun n i => ∃ t : Nat, t ≤ Qs.size ∧ i = .int .i64 t ∧ n = .int .i64 (wrap64 (p10 t))) (fun _ i => Qs.size - (intOf i).toNat)
                case atStart => exact ⟨0, Nat.zero_le _, rfl, by simp [p10, wrap64]⟩
                case round =>
                  obtain ⟨i, hi, rfl, rfl⟩ := hrel
                  by_cases hlt3 : i < Qs.size
                  · have HT : Hid (wrap64 (wrap64 (p10 i) * 10) = wrap64 (p10 (i + 1))) := p10_step i
                    go_wp2
                    go_round
                    case rel => exact ⟨i + 1, by omega, by go_num, congrArg (Value.int IntKind.i64) HT.out⟩
                    case measure => simp [intOf]; omega
                  · have hie : i = Qs.data.toList.length := by simp; omega
                    obtain ⟨T, HT⟩ : ∃ T, Hid (wrap64 (p10 Qs.data.toList.length) = T) := ⟨_, rfl⟩
                    obtain ⟨NP, HNP⟩ : ∃ T, Hid (wrap64 (numL Ps.data.toList) = T) := ⟨_, rfl⟩
                    obtain ⟨NQ, HNQ⟩ : ∃ T, Hid (wrap64 (numL Qs.data.toList) = T) := ⟨_, rfl⟩
                    obtain ⟨NA, HNA⟩ : ∃ T, Hid (wrap64 (numL a0.data.toList) = T) := ⟨_, rfl⟩
                    obtain ⟨NJ, HNJ⟩ : ∃ T, Hid (wrap64 (numL S.data.toList) = T) := ⟨_, rfl⟩
                    rw [show wrap64 (p10 i) = T from by rw [hie]; exact HT.out]
                    clear hie
                    have hl1 : (NJ == wrap64 (wrap64 (wrap64 (wrap64 (NP * T) * 10) + wrap64 (((d.toNat : Int) - 48) % 256 * T)) + NQ)) = true := by
                      rw [beq_iff_eq, ← law_join _ _ d T NP NQ HT.out HNP.out HNQ.out, HQ.out, HP.out, ← HNJ.out, HS.out]; rfl
                    have hl2 : (NA == wrap64 (wrap64 (NP * T) + NQ)) = true := by
                      rw [beq_iff_eq, ← law_whole _ _ T NP NQ HT.out HNP.out HNQ.out, HQ.out, HP.out, ← HNA.out, List.take_append_drop]
                    go_wp2_with fail
                    refine (zznumber_eq _ _ _ (by unfold maxLen; omega) HNA).mono ?_
                    rintro e w4 ⟨rfl, rfl⟩
                    go_wp2_with fail
                    refine (zznumber_eq _ _ _ (by unfold maxLen; omega) HNP).mono ?_
                    rintro e w4 ⟨rfl, rfl⟩
                    go_wp2_with fail
                    refine (zznumber_eq _ _ _ (by unfold maxLen; omega) HNQ).mono ?_
                    rintro e w4 ⟨rfl, rfl⟩
                    go_wp2_with fail
                    refine (zznumber_eq _ _ _ hmj HNJ).mono ?_
                    rintro e w4 ⟨rfl, rfl⟩
                    go_wp2
                    go_ret
                    exact ⟨rfl, HB.out.grown⟩
      · go_enter Try.func6, Try.ntmps6
        go_wp2_with (go_at_call 12; refine (zzbytes12_any _ _ _ _ (by unfold maxLen; omega)).mono ?_; rintro e w' ⟨rfl, rfl⟩; rw [hB])
        go_ret
        exact ⟨rfl, Grown.refl _⟩
    · go_enter Try.func6, Try.ntmps6
      go_wp2_with (go_at_call 12; refine (zzbytes12_any _ _ _ _ (by unfold maxLen; omega)).mono ?_; rintro e w' ⟨rfl, rfl⟩; rw [hB])
      go_ret
      exact ⟨rfl, Grown.refl _⟩
  · have hB : decide (a0.size ≤ 1048576) = false := by simpa using hb
    go_enter Try.func6, Try.ntmps6
    go_wp2_with (go_at_call 12; refine (zzbytes12_any _ _ _ _ (by unfold maxLen; omega)).mono ?_; rintro e w' ⟨rfl, rfl⟩; rw [hB])
    go_ret
    exact ⟨rfl, Grown.refl _⟩

/-! ### THE ROW's STEP: WRITTEN OUT: LEAVE IT -/
set_option maxRecDepth 100000 in
theorem lifted (os : Os) (started : os.Started) (H : Type) (enc : TypeId × Value → H) :
    ReturnsInHanded {} Try.checked os 6 .any (Rows.fnNumberInsertByteSpec.pre6 enc Try.prog Try.f6 Rows.fnNumberInsertByteRow.domain false) (Rows.fnNumberInsertByteSpec.post enc Try.prog Try.f6 false true false false) := by
  refine returnsInHanded_of_change (C := Try.checked) own started (by kernel_rfl) Try.func6
    (ChangeSpec.witness6 (enc := enc) (C := Try.checked) false ⟨#[], #[.string ByteArray.empty, .int .i64 0, .int .u8 0], []⟩ 8 (by kernel_rfl) (by kernel_rfl) (by kernel_rfl) (by kernel_rfl)) ?_
  intro W base args ds gs before hval0 hW hcnd _
  have hval : ∀ (j : Nat) t v, Try.f6.params[j]? = some t → args[j]? = some v → Value.okWide Try.prog W .any base t v := hval0
  have hW' := hW
  obtain ⟨p, q, hA0, hV, rfl, hfz, hnd⟩ := hW
  have hA : DataW.TrodAll enc Try.prog W 0 (fun _ => true) true Try.f6.params.toList args.toList ds p := hA0
  rw [Try.params6] at hA hval
  obtain ⟨v0, vs0, d0, ds0, p0, q0, hargs, rfl, rfl, h0, r0⟩ := trodAll_cons hA
  obtain ⟨v1, vs1, d1, ds1, p1, q1, rfl, rfl, rfl, h1, r1⟩ := trodAll_cons r0
  obtain ⟨v2, vs2, d2, ds2, p2, q2, rfl, rfl, rfl, h2, r2⟩ := trodAll_cons r1
  obtain ⟨rfl, rfl, rfl⟩ := trodAll_nil r2
  obtain rfl : args = #[v0, v1, v2] := by cases args; simp_all
  obtain ⟨rfl, rfl⟩ := trodVars_none hV
  obtain ⟨a0, rfl, rfl, rfl, w0⟩ := open_string Try.underlying9 (hval 0 9 v0 rfl rfl) h0
  obtain ⟨a1, rfl, rfl, rfl, w1⟩ := open_int Try.underlying3 (hval 1 3 v1 rfl rfl) h1
  obtain ⟨a2, rfl, rfl, rfl, w2⟩ := open_int Try.underlying5 (hval 2 5 v2 rfl rfl) h2
  clear hA0 hval0
  simp only [List.append_nil] at hW'
  refine (walk a0 a1 a2 w0 w1 w2 W).mono fun e W' ⟨he, hg⟩ => ?_
  subst he
  exact ⟨_, rfl, post_of_same (pa := []) (pv := []) hW' (fun _ _ _ => (trodAll_cons_mk (shut_bool Try.underlying4 _) trodAll_mk0)) (fun sp _ => (trodAll_cons_mk (shut_string Try.underlying9 w0) (trodAll_cons_mk (shut_int Try.underlying3 w1) (trodAll_cons_mk (shut_int Try.underlying5 w2) trodAll_mk0)))) (fun _ _ => rfl) rfl
    (hg.frame _) hg.2.1 (ok_one (by kernel_rfl) rfl (okWide_bool_mk Try.underlying4 _))⟩

theorem over : Rows.fnNumberInsertByteRow.holds Try.pinned (OpenSpec.ofChange Rows.fnNumberInsertByteSpec) :=
  OpenClaim.holds_of_wide 6 Try.f6 rfl rfl rfl rfl rfl rfl rfl ⟨rfl, rfl, rfl, rfl, rfl⟩ rfl rfl rfl rfl rfl (by kernel_rfl) Try.func6 (by kernel_rfl)
    (of_decide_eq_true (by kernel_rfl)) (by unfold Func.isWrapper; first | (rw [if_pos (by decide +kernel)]; kernel_rfl) | (rw [if_neg (by decide +kernel)]; exact ⟨rfl, rfl⟩))
    (fun os started H enc _ => lifted os started H enc)

/-- ████ THE STATEMENT ████ -/
theorem proved : Rows.FnNumberInsertByteSaid :=
  over
end Go.Proofs.Qxb6617310a.fnNumberInsertByte
