import Derived.Test.Qxb6617310aRows
import Derived.Test.Qxb6617310aStrs2
import Derived.Deep.Strs
import Derived.Laws.Cover3
import Derived.WalkKit
import Derived.ProofKit
import Derived.OpenShut
import Derived.ShutString
import Derived.ChangeOld
import Derived.Below
namespace Go.Proofs.Qxb6617310a.fnContainsInsertAndCut
open Go.ChangeShapes Go.WideShapes Go.ChangeAt Go.RowKit
open Go.ChangeMaps (open_string shut_string)
set_option linter.unusedVariables false

theorem own : ownKnob Try.prog.godebug = none := by kernel_rfl
theorem laidOut : laidOutB Try.prog = true := by kernel_rfl

set_option maxHeartbeats 1600000 in
set_option maxRecDepth 100000 in
/-- a slice that is not nil -/
theorem walk_some (x : Addr) (cap0 : Nat) (L : List ByteArray) (a1 : Int) (a2 : ByteArray) (a3 : ByteArray) (w : World) (hl : L.length ≤ maxLen) (hL : ∀ (j : Nat) (h : j < L.length), L[j].size ≤ maxLen) (ha : IsS w (some x) L) (w2 : a2.size ≤ maxLen) (w3 : a3.size ≤ maxLen) :
    Calls Try.prog 3 #[.slice (some x) L.length cap0, .int .i64 a1, .string a2, .string a3] w fun e w' => e = .returned (.bool true) ∧ Below w.heap.size w w' := by
  have HA : Hid (IsS w (some x) L) := ha
  have HL : Hid (∀ (j : Nat) (h : j < L.length), L[j].size ≤ maxLen) := hL
  clear ha hL
  have hz7 := fun k => zzbytes7_any (some x) cap0 L k a2 a3 w hl w2 w3 HA.out HL.out
  have HZ7 : Hid (∀ k, Calls Try.prog 7 #[.slice (some x) L.length cap0, .int .i64 k, .string a2, .string a3] w fun e w' => Z7 L a2 a3 w e w') := hz7
  clear hz7
  unfold maxLen at hl w2 w3
  go_enter Try.func3, Try.ntmps3
  go_wp2_with fail
  refine (HZ7.out _).mono ?_
  rintro e w' ⟨b, rfl, rfl, hb⟩
  clear HZ7 HL
  cases b
  · go_wp2
    go_ret
    exact ⟨rfl, Below.refl _ _⟩
  obtain ⟨h0, h1, h2, h3⟩ := hb rfl
  have H3 : Hid (∀ (j : Nat) (h : j < L.length), L[j].size ≤ 1048576) := h3
  clear hb h3
  by_cases h4 : L.length ≤ 131072
  · have hmk := makeS L.length (by omega) w'
    have hrow := Row.mk0 (Below.refl w'.heap.size w') 9 (zeroS L.length)
    have hs1 : IsS (w'.alloc (.cells (zeroS L.length) 9)) (some x) L := fun h => by
      obtain ⟨b, off, e, hc⟩ := HA.out h
      exact ⟨b, off, e, fun i hi => by rw [(Below.refl w'.heap.size w').alloc (Nat.le_refl _) (.cells (zeroS L.length) 9) |>.cell (p := ⟨b, off + i, none⟩) (cell_lt (hc i hi))]; exact hc i hi⟩
    have hcp := fun ty => copyS hrow x L L.length cap0 ty rfl (by simp [zeroS, strs]) hs1
    have HR : Hid (Row w' ((w'.alloc (.cells (zeroS L.length) 9)).setRow w'.heap.size (strs L).toArray) w'.heap.size 9 (strs L)) := hrow.setRow (strs L)
    clear hrow hs1
    have hne : ∀ (l c : Nat) (u : World), (binOp .neq 22 (.slice (some x) l c) (.slice none 0 0)).run Try.prog u = .ok (.bool true) u := fun l c u => run_neq_slice_nil u 22 9 (some x) l c Try.underlying22
    by_cases h5 : 8 * L.length + a2.size + a3.size ≤ 1048576
    · go_wp2
      generalize (w'.alloc (Obj.cells (zeroS L.length) 9)).setRow w'.heap.size (strs L).toArray = w1 at HR ⊢
      clear hcp hmk hne HA
      obtain ⟨g, HG⟩ : ∃ g, Hid (w'.heap.size = g) := ⟨_, rfl⟩
      rw [show w'.heap.size = g from HG.out] at HR ⊢
      go_loop [10, 11] (fun z i => ∃ k m : Nat, k ≤ L.length ∧ i = .int .i64 k ∧ z = .int .i64 m ∧ m ≤ 1048576) (fun _ i => L.length - (intOf i).toNat)
      case atStart => exact ⟨0, 8 * L.length + a2.size + a3.size, Nat.zero_le _, rfl, by go_num, h5⟩
      case round =>
        obtain ⟨i, m, hi, rfl, rfl, hm⟩ := hrel
        by_cases hlt : i < L.length
        · have hck := HR.out.cell i
          rw [strs_at L i hlt] at hck
          have hsz := H3.out i hlt
          by_cases hsum : m + L[i].size ≤ 1048576
          · go_wp2
            go_round
            case rel => exact ⟨i + 1, m + L[i].size, by omega, by go_num, by go_num, hsum⟩
            case measure => simp [intOf]; omega
          · go_wp2
            go_ret
            exact ⟨rfl, HG.out ▸ HR.out.below⟩
        · by_cases hk0 : 0 ≤ a1
          · by_cases hk : a1 ≤ L.length
            · obtain ⟨k, rfl⟩ := Int.eq_ofNat_of_zero_le hk0
              have hk' : k ≤ L.length := by omega
              have hmk0 := makeS (L.length + 1) (by omega)
              have hmk : ∀ w, (Instr.makeSlice 22 (.int .i64 ((L.length : Int) + 1)) (.int .i64 ((L.length : Int) + 1))).run Try.prog w = .ok (.slice (some ⟨w.heap.size, 0, none⟩) (L.length + 1) (L.length + 1)) (w.alloc (.cells (zeroS (L.length + 1)) 9)) := hmk0
              clear hmk0
              have HJ : Hid ((Gen.ins L k a2).length = L.length + 1) := Gen.ins_len _ _ _ hk'
              have HR1 : Hid (Row w' (w1.alloc (.cells (zeroS (L.length + 1)) 9)) g 9 (strs L)) := HR.out.other _
              have HR2 : Hid (Row w' (w1.alloc (.cells (zeroS (L.length + 1)) 9)) w1.heap.size 9 (strs (List.replicate (L.length + 1) ByteArray.empty))) := by
                have h := Row.mk0 HR.out.below 9 (zeroS (L.length + 1))
                exact h
              have HNE : Hid (g ≠ w1.heap.size) := Nat.ne_of_lt HR.out.lt
              go_wp2
              obtain ⟨g2, HG2⟩ : ∃ g2, Hid (w1.heap.size = g2) := ⟨_, rfl⟩
              rw [show w1.heap.size = g2 from HG2.out] at HR2 HNE ⊢
              generalize w1.alloc (.cells (zeroS (L.length + 1)) 9) = w2 at HR1 HR2 ⊢
              clear hmk HR
              go_loopw [13] (fun i wr => ∃ j : Nat, j ≤ k ∧ i = .int .i64 j ∧ Row w' wr g 9 (strs L) ∧ Row w' wr g2 9 (strs (Gen.cpy ByteArray.empty (Gen.ins L k a2) j))) (fun i _ => k - (intOf i).toNat)
              case atStart => exact ⟨0, Nat.zero_le _, rfl, HR1.out, by rw [Gen.cpy_zero, HJ.out]; exact HR2.out⟩
              case round =>
                clear HR1 HR2
                obtain ⟨j, hj, rfl, hr1, hr2⟩ := hrel
                by_cases hlt : j < k
                · have hc1 := hr1.cell j
                  rw [strs_at L j (by omega)] at hc1
                  have hc2 := hr2.cell j
                  rw [strs_at _ j (by rw [Gen.cpy_len _ _ _ (by rw [HJ.out]; omega), HJ.out]; omega)] at hc2
                  have hfz := hr2.frozen j
                  have hltL : j < L.length := by omega
                  have HB1 : Hid (Row w' (wr.setCell ⟨g2, j, none⟩ (.string L[j])) g 9 (strs L)) := hr1.setOther hr2.new HNE.out j _
                  have HB2 : Hid (Row w' (wr.setCell ⟨g2, j, none⟩ (.string L[j])) g2 9 (strs (Gen.cpy ByteArray.empty (Gen.ins L k a2) (j + 1)))) := by
                    have := hr2.set j (.string L[j])
                    rw [strs_set] at this
                    have e := Gen.cpy_set ByteArray.empty (Gen.ins L k a2) j (by rw [HJ.out]; omega)
                    rw [Gen.ins_lo _ _ _ hk' j hlt] at e
                    rw [e] at this; exact this
                  clear hr1 hr2
                  go_wp2
                  go_roundw
                  case rel => exact ⟨j + 1, by omega, by go_num, HB1.out, HB2.out⟩
                  case measure => simp [intOf]; omega
                · have hje : j = k := by omega
                  subst hje
                  have hc2 := hr2.cell j
                  rw [strs_at _ j (by rw [Gen.cpy_len _ _ _ (by rw [HJ.out]; omega), HJ.out]; omega)] at hc2
                  have hfz := hr2.frozen j
                  have HB1 : Hid (Row w' (wr.setCell ⟨g2, j, none⟩ (.string a2)) g 9 (strs L)) := hr1.setOther hr2.new HNE.out j _
                  have HB2 : Hid (Row w' (wr.setCell ⟨g2, j, none⟩ (.string a2)) g2 9 (strs (Gen.cpy ByteArray.empty (Gen.ins L j a2) (j + 1)))) := by
                    have := hr2.set j (.string a2)
                    rw [strs_set] at this
                    have e := Gen.cpy_set ByteArray.empty (Gen.ins L j a2) j (by rw [HJ.out]; omega)
                    rw [Gen.ins_at _ _ _ hk'] at e
                    rw [e] at this; exact this
                  clear hr1 hr2
                  go_wp2
                  generalize wr.setCell ⟨g2, j, none⟩ (.string a2) = w3 at HB1 HB2 ⊢
                  clear hc2 hfz
                  go_loopw [14] (fun i wr => ∃ t : Nat, j ≤ t ∧ t ≤ L.length ∧ i = .int .i64 t ∧ Row w' wr g 9 (strs L) ∧ Row w' wr g2 9 (strs (Gen.cpy ByteArray.empty (Gen.ins L j a2) (t + 1)))) (fun i _ => L.length - (intOf i).toNat)
                  case atStart => exact ⟨j, Nat.le_refl _, hk', rfl, HB1.out, HB2.out⟩
                  case round =>
                    clear HB1 HB2
                    obtain ⟨t, ht0, ht, rfl, hr1, hr2⟩ := hrel
                    by_cases hlt2 : t < L.length
                    · have hc1 := hr1.cell t
                      rw [strs_at L t hlt2] at hc1
                      have hc2 := hr2.cell (t + 1)
                      rw [strs_at _ (t + 1) (by rw [Gen.cpy_len _ _ _ (by rw [HJ.out]; omega), HJ.out]; omega)] at hc2
                      have hfz := hr2.frozen (t + 1)
                      have HB1 : Hid (Row w' (wr.setCell ⟨g2, t + 1, none⟩ (.string L[t])) g 9 (strs L)) := hr1.setOther hr2.new HNE.out (t + 1) _
                      have HB2 : Hid (Row w' (wr.setCell ⟨g2, t + 1, none⟩ (.string L[t])) g2 9 (strs (Gen.cpy ByteArray.empty (Gen.ins L j a2) (t + 1 + 1)))) := by
                        have := hr2.set (t + 1) (.string L[t])
                        rw [strs_set] at this
                        have e := Gen.cpy_set ByteArray.empty (Gen.ins L j a2) (t + 1) (by rw [HJ.out]; omega)
                        rw [Gen.ins_hi _ _ _ hk' t ht0 hlt2] at e
                        rw [e] at this; exact this
                      clear hr1 hr2
                      go_wp2
                      go_roundw
                      case rel => exact ⟨t + 1, by omega, by omega, by go_num, HB1.out, HB2.out⟩
                      case measure => simp [intOf]; omega
                    · have hte : t + 1 = (Gen.ins L j a2).length := by rw [HJ.out]; omega
                      rw [hte, Gen.cpy_all] at hr2
                      clear hte
                      have HS1 : Hid (IsS wr (some ⟨g, 0, none⟩) L) := IsS_row hr1
                      have HS2 : Hid (IsS wr (some ⟨g, 0, none⟩) (L.take j)) := IsS_take hr1 j
                      have HS3 : Hid (IsS wr (some ⟨g, j, none⟩) (L.drop j)) := IsS_drop hr1 j
                      have HS4 : Hid (IsS wr (some ⟨g2, 0, none⟩) (Gen.ins L j a2)) := IsS_row hr2
                      have HBE : Hid (Below w'.heap.size w' wr) := hr1.below
                      have HL2 : Hid ((L.take j).length = j) := by show _ = _; simp; omega
                      have HL3 : Hid ((L.drop j).length = L.length - j) := by show _ = _; simp
                      clear hr1 hr2
                      obtain ⟨vl, HVL⟩ : ∃ v, Hid (hasL (L.take j) a3 = v) := ⟨_, rfl⟩
                      obtain ⟨vr, HVR⟩ : ∃ v, Hid (hasL (L.drop j) a3 = v) := ⟨_, rfl⟩
                      obtain ⟨vb, HVB⟩ : ∃ v, Hid (decide (a3 = a2) = v) := ⟨_, rfl⟩
                      have HVW : Hid (hasL L a3 = (vl || vr)) := by show _ = _; rw [hasL_cut L j, HVL.out, HVR.out]
                      have HVT : Hid (hasL (Gen.ins L j a2) a3 = (vl || vr || vb)) := by show _ = _; rw [hasL_ins, HVW.out, HVB.out]
                      have HVS : Hid (hasL (Gen.ins L j a2) a2 = true) := hasL_insS L j a2
                      have HQ : Hid ((a3.toList == a2.toList) = vb) := by show _ = _; rw [str_beq, HVB.out]
                      by_cases hjl : j = L.length
                      · subst hjl
                        have HS5 : Hid (IsS wr (some ⟨g, 0, none⟩) ([] : List ByteArray)) := IsS_none _ _
                        have hv : vr = false := by rw [← HVR.out]; simp [hasL]
                        subst hv
                        go_wp2_with fail
                        refine (zzcontains_eq _ _ _ L _ _ _ (by exact rfl) (by unfold maxLen; omega) HS1 HVW).mono ?_
                        rintro e w4 ⟨rfl, rfl⟩
                        go_wp2_with fail
                        refine (zzcontains_eq _ _ _ (L.take L.length) _ _ _ HL2 (by unfold maxLen; omega) HS2 HVL).mono ?_
                        rintro e w4 ⟨rfl, rfl⟩
                        go_wp2_with fail
                        refine (zzcontains_eq _ _ _ [] _ false _ (by exact rfl) (by unfold maxLen; omega) HS5 (by exact rfl)).mono ?_
                        rintro e w4 ⟨rfl, rfl⟩
                        go_wp2_with fail
                        refine (zzcontains_eq _ _ _ (Gen.ins L L.length a2) _ _ _ HJ (by unfold maxLen; omega) HS4 HVS).mono ?_
                        rintro e w4 ⟨rfl, rfl⟩
                        go_wp2_with fail
                        refine (zzcontains_eq _ _ _ (Gen.ins L L.length a2) _ _ _ HJ (by unfold maxLen; omega) HS4 HVT).mono ?_
                        rintro e w4 ⟨rfl, rfl⟩
                        have hq := HQ.out
                        cases vl <;> cases vb
                        all_goals
                          go_wp2
                          go_ret
                          exact ⟨rfl, HG.out ▸ HBE.out⟩
                      · have hjl' : j < L.length := by omega
                        clear hjl
                        go_wp2_with fail
                        refine (zzcontains_eq _ _ _ L _ _ _ (by exact rfl) (by unfold maxLen; omega) HS1 HVW).mono ?_
                        rintro e w4 ⟨rfl, rfl⟩
                        go_wp2_with fail
                        refine (zzcontains_eq _ _ _ (L.take j) _ _ _ HL2 (by unfold maxLen; omega) HS2 HVL).mono ?_
                        rintro e w4 ⟨rfl, rfl⟩
                        go_wp2_with fail
                        refine (zzcontains_eq _ _ _ (L.drop j) _ _ _ HL3 (by unfold maxLen; omega) HS3 HVR).mono ?_
                        rintro e w4 ⟨rfl, rfl⟩
                        go_wp2_with fail
                        refine (zzcontains_eq _ _ _ (Gen.ins L j a2) _ _ _ HJ (by unfold maxLen; omega) HS4 HVS).mono ?_
                        rintro e w4 ⟨rfl, rfl⟩
                        go_wp2_with fail
                        refine (zzcontains_eq _ _ _ (Gen.ins L j a2) _ _ _ HJ (by unfold maxLen; omega) HS4 HVT).mono ?_
                        rintro e w4 ⟨rfl, rfl⟩
                        have hq := HQ.out
                        cases vl <;> cases vr <;> cases vb
                        all_goals
                          go_wp2
                          go_ret
                          exact ⟨rfl, HG.out ▸ HBE.out⟩
            · go_wp2
              go_ret
              exact ⟨rfl, HG.out ▸ HR.out.below⟩
          · go_wp2
            go_ret
            exact ⟨rfl, HG.out ▸ HR.out.below⟩
    · go_wp2
      go_ret
      exact ⟨rfl, HR.out.below⟩
  · go_wp2
    go_ret
    exact ⟨rfl, Below.refl _ _⟩

set_option maxHeartbeats 1600000 in
set_option maxRecDepth 100000 in
/-- the nil slice -/
theorem walk_nil (a1 : Int) (a2 : ByteArray) (a3 : ByteArray) (w : World) (w2 : a2.size ≤ maxLen) (w3 : a3.size ≤ maxLen) :
    Calls Try.prog 3 #[.slice none 0 0, .int .i64 a1, .string a2, .string a3] w fun e w' => e = .returned (.bool true) ∧ Below w.heap.size w w' := by
  have HZ7 : Hid (∀ k, Calls Try.prog 7 #[.slice none 0 0, .int .i64 k, .string a2, .string a3] w fun e w' => Z7 [] a2 a3 w e w') :=
    fun k => zzbytes7_any none 0 [] k a2 a3 w (by simp) w2 w3 (IsS_none _ _) (fun j h => by simp at h)
  unfold maxLen at w2 w3
  go_enter Try.func3, Try.ntmps3
  go_wp2_with fail
  refine (HZ7.out _).mono ?_
  rintro e w' ⟨b, rfl, rfl, hb⟩
  clear HZ7
  cases b
  · go_wp2
    go_ret
    exact ⟨rfl, Below.refl _ _⟩
  obtain ⟨_, h1, h2, _⟩ := hb rfl
  clear hb
  have hne : ∀ (l c : Nat) (u : World), (binOp .neq 22 (.slice none l c) (.slice none 0 0)).run Try.prog u = .ok (.bool false) u := fun l c u => run_neq_slice_nil u 22 9 none l c Try.underlying22
  by_cases h5 : a2.size + a3.size ≤ 1048576
  · go_wp2
    go_loop [10, 11] (fun z i => i = .int .i64 0) (fun _ i => 0)
    case atStart => rfl
    case round =>
      subst hrel
      by_cases hk : a1 = 0
      · subst hk
        have hmk : ∀ w, (Instr.makeSlice 22 (.int .i64 1) (.int .i64 1)).run Try.prog w = .ok (.slice (some ⟨w.heap.size, 0, none⟩) 1 1) (w.alloc (.cells (zeroS 1) 9)) := makeS 1 (by omega)
        have hr := Row.mk0 (Below.refl w'.heap.size w') 9 (zeroS 1)
        have HR0 : Hid (Row w' (w'.alloc (.cells (zeroS 1) 9)) w'.heap.size 9 (strs [ByteArray.empty])) := hr
        clear hr
        go_wp2
        generalize w'.alloc (.cells (zeroS 1) 9) = w5 at HR0 ⊢
        obtain ⟨g, HG⟩ : ∃ g, Hid (w'.heap.size = g) := ⟨_, rfl⟩
        rw [show w'.heap.size = g from HG.out] at HR0 ⊢
        clear hmk
        go_loop [13] (fun i => i = .int .i64 0) (fun i => 0)
        case atStart => rfl
        case round =>
          subst hrel
          have hc := HR0.out.cell 0
          rw [strs_at _ 0 (by simp)] at hc
          have hfz := HR0.out.frozen 0
          have HR : Hid (Row w' (w5.setCell ⟨g, 0, none⟩ (.string a2)) g 9 (strs [a2])) := HR0.out.set 0 (.string a2)
          go_wp2
          generalize w5.setCell ⟨g, 0, none⟩ (.string a2) = w3 at HR ⊢
          clear hc hfz HR0
          go_loop [14] (fun i => i = .int .i64 0) (fun i => 0)
          case atStart => rfl
          case round =>
            subst hrel
            have HS0 : Hid (IsS w3 none ([] : List ByteArray)) := IsS_none _ _
            have HS4 : Hid (IsS w3 (some ⟨g, 0, none⟩) [a2]) := IsS_row HR.out
            obtain ⟨vb, HVB⟩ : ∃ v, Hid (decide (a3 = a2) = v) := ⟨_, rfl⟩
            have HVS : Hid (hasL [a2] a2 = true) := by show _ = _; simp [hasL]
            have HVT : Hid (hasL [a2] a3 = vb) := by
              show _ = _
              rw [← HVB.out]; simp [hasL, eq_comm]
            have HQ : Hid ((a3.toList == a2.toList) = vb) := by show _ = _; rw [str_beq, HVB.out]
            go_wp2_with fail
            refine (zzcontains_eq _ _ _ [] _ false _ (by exact rfl) (by unfold maxLen; omega) HS0 (by exact rfl)).mono ?_
            rintro e w4 ⟨rfl, rfl⟩
            go_wp2_with fail
            refine (zzcontains_eq _ _ _ [] _ false _ (by exact rfl) (by unfold maxLen; omega) HS0 (by exact rfl)).mono ?_
            rintro e w4 ⟨rfl, rfl⟩
            go_wp2_with fail
            refine (zzcontains_eq _ _ _ [] _ false _ (by exact rfl) (by unfold maxLen; omega) HS0 (by exact rfl)).mono ?_
            rintro e w4 ⟨rfl, rfl⟩
            go_wp2_with fail
            refine (zzcontains_eq _ _ _ [a2] _ _ _ (by exact rfl) (by unfold maxLen; omega) HS4 HVS).mono ?_
            rintro e w4 ⟨rfl, rfl⟩
            go_wp2_with fail
            refine (zzcontains_eq _ _ _ [a2] _ _ _ (by exact rfl) (by unfold maxLen; omega) HS4 HVT).mono ?_
            rintro e w4 ⟨rfl, rfl⟩
            have hq := HQ.out
            cases vb
            all_goals
              go_wp2
              go_ret
              exact ⟨rfl, HG.out ▸ HR.out.below⟩
      · rcases (show a1 < 0 ∨ 0 < a1 from by omega) with hk' | hk'
        · go_wp2
          go_ret
          exact ⟨rfl, Below.refl _ _⟩
        · go_wp2
          go_ret
          exact ⟨rfl, Below.refl _ _⟩
  · go_wp2
    go_ret
    exact ⟨rfl, Below.refl _ _⟩

/-- what the walk is told of a slice of strings that came in -/
def IsRowS (w : World) (a : Option Addr) (len cap : Nat) (L : List ByteArray) : Prop :=
  (a = none ∧ len = 0 ∧ cap = 0) ∨ ∃ x, a = some x ∧ L.length = len ∧ len ≤ maxLen ∧ IsS w (some x) L ∧ ∀ (j : Nat) (h : j < L.length), L[j].size ≤ maxLen

theorem walk (a0 : Option Addr) (len0 cap0 : Nat) (L : List ByteArray) (a1 : Int) (a2 : ByteArray) (a3 : ByteArray) (w : World) (w0 : IsRowS w a0 len0 cap0 L) (w2 : a2.size ≤ maxLen) (w3 : a3.size ≤ maxLen) :
    Calls Try.prog 3 #[.slice a0 len0 cap0, .int .i64 a1, .string a2, .string a3] w fun e w' => e = .returned (.bool true) ∧ Below w.heap.size w w' := by
  rcases w0 with ⟨rfl, rfl, rfl⟩ | ⟨x, rfl, rfl, hl, hs, hL⟩
  · exact walk_nil a1 a2 a3 w w2 w3
  · exact walk_some x cap0 L a1 a2 a3 w hl hL hs w2 w3


/-! ### THE ROW's STEP: WRITTEN OUT: LEAVE IT -/
set_option maxRecDepth 100000 in
theorem lifted (os : Os) (started : os.Started) (H : Type) (enc : TypeId × Value → H) :
    ReturnsInHanded {} Try.checked os 3 .any (Rows.fnContainsInsertAndCutSpec.pre6 enc Try.prog Try.f3 Rows.fnContainsInsertAndCutRow.domain false) (Rows.fnContainsInsertAndCutSpec.post enc Try.prog Try.f3 false true false false) := by
  refine returnsInHanded_of_change (C := Try.checked) own started (by kernel_rfl) Try.func3
    (ChangeSpec.witness6 (enc := enc) (C := Try.checked) false ⟨#[], #[.slice none 0 0, .int .i64 0, .string ByteArray.empty, .string ByteArray.empty], []⟩ 8 (by kernel_rfl) (by kernel_rfl) (by kernel_rfl) (by kernel_rfl)) ?_
  intro W base args ds gs before hval0 hW hcnd _
  have hval : ∀ (j : Nat) t v, Try.f3.params[j]? = some t → args[j]? = some v → Value.okWide Try.prog W .any base t v := hval0
  have hW' := hW
  obtain ⟨p, q, hA0, hV, rfl, hfz, hnd⟩ := hW
  have hA : DataW.TrodAll enc Try.prog W 0 (fun _ => true) true Try.f3.params.toList args.toList ds p := hA0
  rw [Try.params3] at hA hval
  obtain ⟨v0, vs0, d0, ds0, p0, q0, hargs, rfl, rfl, h0, r0⟩ := trodAll_cons hA
  obtain ⟨v1, vs1, d1, ds1, p1, q1, rfl, rfl, rfl, h1, r1⟩ := trodAll_cons r0
  obtain ⟨v2, vs2, d2, ds2, p2, q2, rfl, rfl, rfl, h2, r2⟩ := trodAll_cons r1
  obtain ⟨v3, vs3, d3, ds3, p3, q3, rfl, rfl, rfl, h3, r3⟩ := trodAll_cons r2
  obtain ⟨rfl, rfl, rfl⟩ := trodAll_nil r3
  obtain rfl : args = #[v0, v1, v2, v3] := by cases args; simp_all
  obtain ⟨rfl, rfl⟩ := trodVars_none hV
  obtain ⟨a0, len0, cap0, rfl⟩ := okWide_slice Try.underlying22 (hval 0 22 v0 rfl rfl)
  have k0 := h0
  have lt0 : ∀ x ∈ p0, x.block < W.heap.size := by obtain ⟨m, hm⟩ := k0; exact DataW.trod_lt m _ _ _ hm
  obtain ⟨L, w0⟩ : ∃ L, IsRowS W a0 len0 cap0 L := by
    obtain ⟨fuel, hf⟩ := h0
    rcases Deep.open_strs Try.underlying22 Try.underlying9 (by kernel_rfl) hf with ⟨hcs, _⟩ | ⟨x, l, c, m, Sx, hcs, _, hl, hm, hmm, _, hcell⟩
    · simp [Value.cells] at hcs
      obtain ⟨rfl, rfl, rfl⟩ := hcs
      exact ⟨[], .inl ⟨rfl, rfl, rfl⟩⟩
    · simp [Value.cells] at hcs
      obtain ⟨rfl, rfl, rfl⟩ := hcs
      simp only [if_true] at hmm
      subst hmm
      refine ⟨(List.range len0).map Sx, .inr ⟨x, rfl, by simp, by omega, fun h => ?_, fun j h => ?_⟩⟩
      · have hpos : 0 < len0 := by simpa using h
        obtain ⟨b, off, spot⟩ := x
        have hspot : spot = none := by simpa [Addr.add] using World.cell?_spot (hcell 0 (by omega)).1
        subst hspot
        exact ⟨b, off, rfl, fun i hi => by
          have hi' : i < len0 := by simpa using hi
          have h2 := (hcell i (by omega)).1
          rw [WideShapes.add_plain] at h2
          rw [h2]; simp⟩
      · have hj : j < len0 := by simpa using h
        have h2 := (hcell j (by omega)).2
        simpa using h2
  obtain ⟨a1, rfl, rfl, rfl, w1⟩ := open_int Try.underlying3 (hval 1 3 v1 rfl rfl) h1
  obtain ⟨a2, rfl, rfl, rfl, w2⟩ := open_string Try.underlying9 (hval 2 9 v2 rfl rfl) h2
  obtain ⟨a3, rfl, rfl, rfl, w3⟩ := open_string Try.underlying9 (hval 3 9 v3 rfl rfl) h3
  clear hA0 hval0
  refine (walk a0 len0 cap0 L a1 a2 a3 W w0 w2 w3).mono fun e W' ⟨he, bel⟩ => ?_
  subst he
  exact ⟨_, rfl, _, _, _, [], _, [], hW', trodAll_mk1 (shut_bool Try.underlying4 _), (trodAll_cons_mk (Below.trod laidOut (by kernel_rfl) (of_decide_eq_true (by kernel_rfl)) k0 bel lt0) (trodAll_cons_mk (shut_int Try.underlying3 w1) (trodAll_cons_mk (shut_string Try.underlying9 w2) (trodAll_cons_mk (shut_string Try.underlying9 w3) trodAll_mk0)))), rfl, bel.frame _, fun h => by cases h⟩

theorem over : Rows.fnContainsInsertAndCutRow.holds Try.pinned (OpenSpec.ofChange Rows.fnContainsInsertAndCutSpec) :=
  OpenClaim.holds_of_wide 3 Try.f3 rfl rfl rfl rfl rfl rfl rfl ⟨rfl, rfl, rfl, rfl, rfl⟩ rfl rfl rfl rfl rfl (by kernel_rfl) Try.func3 (by kernel_rfl)
    (of_decide_eq_true (by kernel_rfl)) (by unfold Func.isWrapper; first | (rw [if_pos (by decide +kernel)]; kernel_rfl) | (rw [if_neg (by decide +kernel)]; exact ⟨rfl, rfl⟩))
    (fun os started H enc _ => lifted os started H enc)

/-- ████ THE STATEMENT ████ -/
theorem proved : Rows.FnContainsInsertAndCutSaid := over
end Go.Proofs.Qxb6617310a.fnContainsInsertAndCut
