import Derived.Test.Qxb6617343aDoorLaid
import Derived.Test.Qxb6617343aDoorNum2
import Derived.Test.Qxb6617343aDoorLaid2
import Derived.ShutString
import Derived.Test.Qxb6617343aDoorTie
import Derived.Test.Qxb6617343aDoorCards
import Derived.SevenTiedAt
namespace Go.Proofs.Qxb6617343aDoor.FnAccept
open Go.Shelf Go.RowKit Go.Sort Go.Lib

set_option maxHeartbeats 1000000 in
theorem walk (s : ByteArray) (hs : s.size ≤ maxLen) (w : World) (htab : Lib.TabIs Tryd.prog w powName .u64 Lib.pow10Tab) (hS : VarI w "strconv.ErrSyntax") (hR : VarI w "strconv.ErrRange") :
    Calls Tryd.prog 5 #[.string s] w fun e w' => e = .returned (.bool true) ∧ Below w.heap.size w w' := by
  have HT : Hid (TabBelow Tryd.prog w.heap.size w powName .u64 Lib.pow10Tab) := tabBelow_of_tabIs htab
  have HS : Hid (s.size ≤ maxLen) := hs
  unfold maxLen at hs
  by_cases hb : s.size ≤ 1048576
  · have hB : decide (s.size ≤ 1048576) = true := by simpa using hb
    by_cases hz : s.size ≤ 65536
    · by_cases hex : ∃ u, u ≤ M64 ∧ logL u = s.data.toList
      · obtain ⟨u, hu, he⟩ := hex
        obtain rfl : logB u = s := by
          apply ByteArray.ext
          apply Array.toList_inj.1
          rw [logB_data]; exact he
        clear he htab hS hR
        have hu' : u < 18446744073709551616 := by unfold M64 at hu; omega
        go_enter Tryd.func5, Tryd.ntmps5
        go_wp2_with fail
        refine (zz9 _ HS.out _).mono ?_
        rintro e w1 ⟨rfl, rfl⟩
        rw [hB]
        go_wp2_with fail
        refine (log7_yes u hu _ HT.out.here).mono ?_
        rintro e w2 ⟨rfl, hb2⟩
        go_wp2_with fail
        refine (canon10 _ _ hz).mono ?_
        rintro e w3 ⟨v, b, rfl, rfl, hv⟩
        obtain ⟨rfl, rfl⟩ : b = true ∧ v = u := by
          rcases hv with ⟨hb', hvm, hl⟩ | ⟨_, _, hno⟩
          · refine ⟨hb', ?_⟩
            rw [logB_data] at hl
            have h1 := logL_inj v u hvm hu hl
            exact h1
          · exact absurd (logB_data u).symm (hno u hu)
        clear hv
        go_wp2_with fail
        refine (log6 v hu' _ (HT.out _ hb2)).mono ?_
        rintro e w4 ⟨rfl, hb4⟩
        go_wp2
        go_ret
        exact ⟨rfl, hb2.trans (hb4.mono hb2.size)⟩
      · have HN : Hid (NoLog s.data.toList) := fun u hu e => hex ⟨u, hu, e⟩
        have HP : Hid (Calls Tryd.prog 7 #[.string s] w fun e w' => e = .returned (.tuple #[.int .u64 0, .bool false]) ∧ Below w.heap.size w w') := log7_no s hz HN.out w htab hS hR
        clear hex htab hS hR
        go_enter Tryd.func5, Tryd.ntmps5
        go_wp2_with fail
        refine (zz9 _ HS.out _).mono ?_
        rintro e w1 ⟨rfl, rfl⟩
        rw [hB]
        go_wp2_with fail
        refine HP.out.mono ?_
        rintro e w2 ⟨rfl, hb2⟩
        go_wp2_with fail
        refine (canon10 _ _ hz).mono ?_
        rintro e w3 ⟨v, b, rfl, rfl, hv⟩
        obtain ⟨rfl, rfl⟩ : b = false ∧ v = 0 := by
          rcases hv with ⟨_, hvm, hl⟩ | ⟨hb', hv0, _⟩
          · exact absurd hl (HN.out v hvm)
          · exact ⟨hb', hv0⟩
        clear hv HP
        go_wp2
        go_ret
        exact ⟨rfl, hb2⟩
    · clear htab hS hR
      go_enter Tryd.func5, Tryd.ntmps5
      go_wp2_with fail
      refine (zz9 _ HS.out _).mono ?_
      rintro e w1 ⟨rfl, rfl⟩
      rw [hB]
      go_wp2
      go_ret
      exact ⟨rfl, Below.refl _ _⟩
  · have hB : decide (s.size ≤ 1048576) = false := by simpa using hb
    clear htab hS hR
    go_enter Tryd.func5, Tryd.ntmps5
    go_wp2_with fail
    refine (zz9 _ HS.out _).mono ?_
    rintro e w1 ⟨rfl, rfl⟩
    rw [hB]
    go_wp2
    go_ret
    exact ⟨rfl, Below.refl _ _⟩

section
open Go.ChangeShapes Go.WideShapes Go.ChangeAt Go.WideMaps Go.WideElems
open Go.ChangeMaps (open_string shut_string)
set_option maxRecDepth 100000 in
theorem lifted (os : Os) (started : os.Started) (H : Type) (enc : TypeId × Value → H) :
    ReturnsInHanded {} Tryd.checked os 5 .any (fun w args => (Rows.fnLogFileNumberAcceptsExactlyCanonicalNamesSpec.pre enc Tryd.prog Tryd.f5 [] false w args ∧ laidMetH Tryd.prog laid5 w) ∧ sizedMet enc Tryd.prog Tryd.f5 (OpenSpec.ofChange Rows.fnLogFileNumberAcceptsExactlyCanonicalNamesSpec) false w args)
      (Rows.fnLogFileNumberAcceptsExactlyCanonicalNamesSpec.post enc Tryd.prog Tryd.f5 false true false false) := by
  refine returnsInHanded_of_change_and (C := Tryd.checked) (X := fun w _ => laidMetH Tryd.prog laid5 w) (fun _ _ _ hh h => h.of_heap hh) own started (by kernel_rfl) Tryd.func5
    (ChangeSpec.witness_shaped (enc := enc) (C := Tryd.checked) (os := os) (X := fun w _ => laidMetH Tryd.prog laid5 w) false (World.doorLaid Tryd.prog 62 os) #[.string ByteArray.empty] 8 rfl (World.shaped_of_RefB (by kernel_rfl) (by kernel_rfl)) (by kernel_rfl) (by kernel_rfl) (by kernel_rfl) (door5 os _)) ?_
  intro W base args ds gs before hval0 hW _ _ hL _
  have hval : ∀ (j : Nat) t v, Tryd.f5.params[j]? = some t → args[j]? = some v → Value.okWide Tryd.prog W .any base t v := hval0
  have hW' := hW
  obtain ⟨p, q, hA0, hV, rfl, hfz, hnd⟩ := hW
  have hA : DataW.TrodAll enc Tryd.prog W 0 (fun _ => true) true Tryd.f5.params.toList args.toList ds p := hA0
  rw [Tryd.params5] at hA hval
  obtain ⟨v0, d0, rfl, rfl, h0⟩ := trodAll_one hA
  obtain ⟨rfl, rfl⟩ := trodVars_none hV
  obtain ⟨a0, rfl, rfl, rfl, w0⟩ := open_string Tryd.underlying9 (hval 0 9 v0 rfl rfl) h0
  clear hA0 hval0
  refine (walk a0 w0 W (tab5 hL) (errs5 hL).1 (errs5 hL).2).mono fun e W' ⟨he, bel⟩ => ?_
  subst he
  exact ⟨_, rfl, _, _, _, [], _, [], hW', trodAll_mk1 (shut_bool Tryd.underlying4 _), trodAll_mk1 (shut_string Tryd.underlying9 w0), rfl, bel.frame _, fun h => by cases h⟩

theorem holds : Rows.FnLogFileNumberAcceptsExactlyCanonicalNamesSaid :=
  OpenClaim.holds_of_wide 5 Tryd.f5 rfl rfl rfl rfl rfl rfl rfl ⟨rfl, rfl, rfl, rfl, rfl⟩ rfl rfl rfl rfl rfl (by kernel_rfl) Tryd.func5 (by kernel_rfl)
    (of_decide_eq_true (by kernel_rfl)) (by unfold Func.isWrapper; first | (rw [if_pos (by decide +kernel)]; kernel_rfl) | (rw [if_neg (by decide +kernel)]; exact ⟨rfl, rfl⟩))
    (fun os started H enc _ => lifted os started H enc)

theorem card : Rows.FnLogFileNumberAcceptsExactlyCanonicalNamesCardSaid :=
  Claim7.holds_tied_plain_at .later [] [.data, .data, .data, .sentinel, .sentinel] true (true, "9eeaa724a2b3c6c0e9595023f6e6f68e3727f8f960e19c3c569951de213e2e46") true
    holds (fun _ h => by cases h) (by kernel_rfl) (fun _ h => by cases h) fnLogFileNumberAcceptsExactlyCanonicalNames_row_tie rfl ⟨rfl, rfl⟩ (by kernel_rfl) rfl
    (fun f fn hf hfn => by
      obtain rfl : f = 5 := Option.some.inj ((show Tryd.prog.funcNamed Rows.fnLogFileNumberAcceptsExactlyCanonicalNamesRow.func = some 5 by kernel_rfl).symm.trans hf) |>.symm
      obtain rfl : fn = Tryd.f5 := (Option.some.inj (Tryd.func5.symm.trans hfn)).symm
      exact ⟨by kernel_rfl, fun j t ht => by
        rw [Tryd.params5] at ht
        have hm : t ∈ [9] := by simpa using Array.mem_of_getElem? ht
        have hall : ([9].all fun u => !Tryd.prog.wantsStandIn u) = true := by kernel_rfl
        exact (show Tryd.prog.wantsStandIn t = false by simpa using List.all_eq_true.1 hall t hm)⟩)
    (by kernel_rfl)
end
end Go.Proofs.Qxb6617343aDoor.FnAccept
