import Derived.Test.Qxb6617343aFrame
namespace Go.Proofs.Qxb6617343a
open Go.RowKit
set_option maxRecDepth 100000
set_option maxHeartbeats 4000000 in
theorem segG (X : Ctx) (w0 w : World) (a : Act) (B bt gr : Nat) (R : List RW) (d : Bool) (mv : Option Nat) (M : AM)
    (hH : Has a (base X [(20, .pointer (some ⟨bt, 0, none⟩)), (32, .int .i64 (M.length : Int))])) (hT : TS B w bt gr R d mv M) (hm : mv.isNone = decide (M.length = 0)) (hb : Below w0.heap.size w0 w) :
    Code.wp Try.prog (restC 29 (fb Try.f4)) (bodyPost Try.prog Try.f4 (PostF w0)) a w := by
  have h18 := nil18 hT
  have h19 := len19 hT
  rw [hm] at h18
  have HB : Hid (Below w0.heap.size w0 w) := hb
  obtain ⟨x, rfl, hx⟩ := hH.open
  simp only [base, List.forall_mem_cons, List.not_mem_nil, false_imp_iff, implies_true, and_true] at hx
  obtain ⟨e0, e1, e2, e3, e4, e5, e6, e7, e20, e32⟩ := hx
  unfold Fr
  simp only [e0, e1, e2, e3, e4, e5, e6, e7, e20, e32]
  clear e0 e1 e2 e3 e4 e5 e6 e7 e20 e32 hH hb hT hm
  generalize M.length = cnt at h18 h19 ⊢
  have H18 : Hid (Calls Try.prog 18 #[.pointer (some ⟨bt, 0, none⟩)] w fun e w' => e = .returned (.bool (decide (cnt = 0))) ∧ w' = w) := h18
  have H19 : Hid (Calls Try.prog 19 #[.pointer (some ⟨bt, 0, none⟩)] w fun e w' => e = .returned (.int .i64 (cnt : Int)) ∧ w' = w) := h19
  clear h18 h19
  conv => arg 2; whnf
  by_cases h0 : cnt = 0
  · subst h0
    go_wp2_with (first | (go_at_call 18; refine H18.out.mono ?_; rintro e w' ⟨rfl, rfl⟩) | (go_at_call 19; refine H19.out.mono ?_; rintro e w' ⟨rfl, rfl⟩))
    go_ret
    exact ⟨rfl, HB.out⟩
  · have h1 : decide (cnt = 0) = false := by simp [h0]
    have h2 : ((cnt : Int) == 0) = false := by simp; omega
    go_wp2_with (first | (go_at_call 18; refine H18.out.mono ?_; rintro e w' ⟨rfl, rfl⟩) | (go_at_call 19; refine H19.out.mono ?_; rintro e w' ⟨rfl, rfl⟩))
    go_ret
    exact ⟨rfl, HB.out⟩
end Go.Proofs.Qxb6617343a
