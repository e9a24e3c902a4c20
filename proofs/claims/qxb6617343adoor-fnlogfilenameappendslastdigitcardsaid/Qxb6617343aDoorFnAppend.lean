import Derived.Test.Qxb6617343aDoorLaid
import Derived.Test.Qxb6617343aDoorTie
import Derived.Test.Qxb6617343aDoorCards
import Derived.SevenTiedAt
namespace Go.Proofs.Qxb6617343aDoor.FnAppend
open Go.Shelf Go.RowKit Go.Sort Go.Lib

set_option maxHeartbeats 1000000 in
theorem walk (n : Nat) (h : n < 18446744073709551616) (w : World) (htab : Lib.TabIs Tryd.prog w powName .u64 Lib.pow10Tab) :
    Calls Tryd.prog 4 #[.int .u64 n] w fun e w' => e = .returned (.bool true) ∧ Below w.heap.size w w' := by
  have HT : Hid (TabBelow Tryd.prog w.heap.size w powName .u64 Lib.pow10Tab) := tabBelow_of_tabIs htab
  clear htab
  rcases Nat.eq_zero_or_pos n with rfl | h0
  · have hq : ((logB 0).toList == [108, 111, 103]) = true := by rw [ByteArray.toList_eq]; rfl
    go_enter Tryd.func4, Tryd.ntmps4
    go_wp2_with (go_at_call 6; refine (log6_zero _).mono ?_; rintro e w' ⟨rfl, rfl⟩)
    go_ret
    exact ⟨rfl, Below.refl _ _⟩
  · have hn0 : ((n : Int) == 0) = false := by simp; omega
    by_cases h10 : n < 10
    · have hz := logB_size 0 (by omega)
      have hq : ((logB n).toList == (logB 0 ++ (⟨#[46]⟩ : ByteArray) ++ digB (n % 10)).toList) = true := by rw [str_beq, ← logB_low n h0 h10]; simp
      have hd : (digB (n % 10)).size ≤ 1 := Nat.le_refl _
      go_enter Tryd.func4, Tryd.ntmps4
      go_wp2_with fail
      refine (digit8i _ (by omega) (by omega) _).mono ?_
      rintro e w1 ⟨rfl, hb1⟩
      rw [show ((n : Int) % 10).toNat = n % 10 from by omega]
      generalize digB (n % 10) = D at hq hd ⊢
      go_wp2_with fail
      refine (log6i _ (by omega) (by omega) _ (HT.out _ hb1)).mono ?_
      rintro e w2 ⟨rfl, hb2⟩
      rw [Int.toNat_natCast]
      generalize logB n = LN at hq ⊢
      go_wp2_with (go_at_call 6; refine (log6_zero _).mono ?_; rintro e w' ⟨rfl, rfl⟩)
      go_ret
      exact ⟨rfl, hb1.trans (hb2.mono hb1.size)⟩
    · have hz := logB_size (n / 10) (by omega)
      have hq : ((logB n).toList == (logB (n / 10) ++ digB (n % 10)).toList) = true := by rw [str_beq, ← logB_high n (by omega)]; simp
      have hd : (digB (n % 10)).size ≤ 1 := Nat.le_refl _
      go_enter Tryd.func4, Tryd.ntmps4
      go_wp2_with fail
      refine (digit8i _ (by omega) (by omega) _).mono ?_
      rintro e w1 ⟨rfl, hb1⟩
      rw [show ((n : Int) % 10).toNat = n % 10 from by omega]
      generalize digB (n % 10) = D at hq hd ⊢
      go_wp2_with fail
      refine (log6i _ (by omega) (by omega) _ (HT.out _ hb1)).mono ?_
      rintro e w2 ⟨rfl, hb2⟩
      rw [Int.toNat_natCast]
      generalize logB n = LN at hq ⊢
      go_wp2_with fail
      refine (log6i _ (by omega) (by omega) _ (HT.out _ (hb1.trans (hb2.mono hb1.size)))).mono ?_
      rintro e w3 ⟨rfl, hb3⟩
      rw [show ((n : Int) / 10).toNat = n / 10 from by omega]
      generalize logB (n / 10) = LM at hq hz ⊢
      go_wp2
      go_ret
      exact ⟨rfl, (hb1.trans (hb2.mono hb1.size)).trans (hb3.mono (Nat.le_trans hb1.size hb2.size))⟩

section
open Go.ChangeShapes Go.WideShapes Go.ChangeAt Go.WideMaps Go.WideElems
set_option maxRecDepth 100000 in
theorem lifted (os : Os) (started : os.Started) (H : Type) (enc : TypeId × Value → H) :
    ReturnsInHanded {} Tryd.checked os 4 .any (fun w args => (Rows.fnLogFileNameAppendsLastDigitSpec.pre enc Tryd.prog Tryd.f4 [] false w args ∧ laidMetH Tryd.prog laid3 w) ∧ sizedMet enc Tryd.prog Tryd.f4 (OpenSpec.ofChange Rows.fnLogFileNameAppendsLastDigitSpec) false w args)
      (Rows.fnLogFileNameAppendsLastDigitSpec.post enc Tryd.prog Tryd.f4 false true false false) := by
  refine returnsInHanded_of_change_and (C := Tryd.checked) (X := fun w _ => laidMetH Tryd.prog laid3 w) (fun _ _ _ hh h => h.of_heap hh) own started (by kernel_rfl) Tryd.func4
    (ChangeSpec.witness_shaped (enc := enc) (C := Tryd.checked) (os := os) (X := fun w _ => laidMetH Tryd.prog laid3 w) false (World.doorLaid Tryd.prog 62 os) #[.int .u64 0] 8 rfl (World.shaped_of_RefB (by kernel_rfl) (by kernel_rfl)) (by kernel_rfl) (by kernel_rfl) (by kernel_rfl) (door3 os _)) ?_
  intro W base args ds gs before hval0 hW _ _ hL _
  have hval : ∀ (j : Nat) t v, Tryd.f4.params[j]? = some t → args[j]? = some v → Value.okWide Tryd.prog W .any base t v := hval0
  have hW' := hW
  obtain ⟨p, q, hA0, hV, rfl, hfz, hnd⟩ := hW
  have hA : DataW.TrodAll enc Tryd.prog W 0 (fun _ => true) true Tryd.f4.params.toList args.toList ds p := hA0
  rw [Tryd.params4] at hA hval
  obtain ⟨v0, d0, rfl, rfl, h0⟩ := trodAll_one hA
  obtain ⟨rfl, rfl⟩ := trodVars_none hV
  obtain ⟨a0, rfl, rfl, rfl, w0⟩ := open_int Tryd.underlying22 (hval 0 22 v0 rfl rfl) h0
  clear hA0 hval0
  have hb : 0 ≤ a0 ∧ a0 < 18446744073709551616 := by
    have hw := w0
    simp [Lit.wf, IntKind.min, IntKind.max, IntKind.signed, IntKind.bits] at hw
    omega
  obtain ⟨n, rfl⟩ := Int.eq_ofNat_of_zero_le hb.1
  refine (walk n (by omega) W (tab3 hL)).mono fun e W' ⟨he, bel⟩ => ?_
  subst he
  exact ⟨_, rfl, _, _, _, [], _, [], hW', trodAll_mk1 (shut_bool Tryd.underlying4 _), trodAll_mk1 (shut_int Tryd.underlying22 w0), rfl, bel.frame _, fun h => by cases h⟩

theorem holds : Rows.FnLogFileNameAppendsLastDigitSaid :=
  OpenClaim.holds_of_wide 4 Tryd.f4 rfl rfl rfl rfl rfl rfl rfl ⟨rfl, rfl, rfl, rfl, rfl⟩ rfl rfl rfl rfl rfl (by kernel_rfl) Tryd.func4 (by kernel_rfl)
    (of_decide_eq_true (by kernel_rfl)) (by unfold Func.isWrapper; first | (rw [if_pos (by decide +kernel)]; kernel_rfl) | (rw [if_neg (by decide +kernel)]; exact ⟨rfl, rfl⟩))
    (fun os started H enc _ => lifted os started H enc)

theorem card : Rows.FnLogFileNameAppendsLastDigitCardSaid :=
  Claim7.holds_tied_plain_at .later [] [.data, .data, .data] true (true, "9eeaa724a2b3c6c0e9595023f6e6f68e3727f8f960e19c3c569951de213e2e46") true
    holds (fun _ h => by cases h) (by kernel_rfl) (fun _ h => by cases h) fnLogFileNameAppendsLastDigit_row_tie rfl ⟨rfl, rfl⟩ (by kernel_rfl) rfl
    (fun f fn hf hfn => by
      obtain rfl : f = 4 := Option.some.inj ((show Tryd.prog.funcNamed Rows.fnLogFileNameAppendsLastDigitRow.func = some 4 by kernel_rfl).symm.trans hf) |>.symm
      obtain rfl : fn = Tryd.f4 := (Option.some.inj (Tryd.func4.symm.trans hfn)).symm
      exact ⟨by kernel_rfl, fun j t ht => by
        rw [Tryd.params4] at ht
        have hm : t ∈ [22] := by simpa using Array.mem_of_getElem? ht
        have hall : ([22].all fun u => !Tryd.prog.wantsStandIn u) = true := by kernel_rfl
        exact (show Tryd.prog.wantsStandIn t = false by simpa using List.all_eq_true.1 hall t hm)⟩)
    (by kernel_rfl)
end
end Go.Proofs.Qxb6617343aDoor.FnAppend
