import Derived.Test.Qxb6617343aDoorLaid
namespace Go.Proofs.Qxb6617343aDoor
open Go.ChangeShapes Go.WideShapes Go.ChangeAt Go.WideMaps Go.WideElems Go.RowKit

theorem var_iface {W : World} {n nm : String} {d : DataW Unit} {rest : List (String × DataW Unit)} {g : Nat} {ti : TypeId} {ms : Array (String × TypeId)}
    (hg : Tryd.prog.globalNamed n = some g) (ht : (Tryd.prog.globals[g]?).map (·.type) = some ti) (hi : Tryd.prog.underlying ti = some (.interface ms))
    (h : laidMet Tryd.prog ((n, .iface nm d) :: rest) W) : ∃ tp p, W.var? Tryd.prog n = some #[.iface tp p] := by
  obtain ⟨ps, ⟨g0, t0, cs0, f0, p0, q0, hg0, ht0, hv0, hd0, _, e0⟩, _⟩ := h
  obtain rfl := Option.some.inj (hg.symm.trans hg0)
  obtain rfl := Option.some.inj (ht.symm.trans ht0)
  obtain ⟨_, u, v, hc, _⟩ := iface_of_trod hi hd0
  obtain ⟨l0⟩ := cs0
  subst hc
  exact ⟨u, v, hv0⟩
theorem gErrS : Tryd.prog.globalNamed "strconv.ErrSyntax" = some 1 := by kernel_rfl
theorem gErrST : (Tryd.prog.globals[1]?).map (·.type) = some 33 := by kernel_rfl
theorem gErrR : Tryd.prog.globalNamed "strconv.ErrRange" = some 2 := by kernel_rfl
theorem gErrRT : (Tryd.prog.globals[2]?).map (·.type) = some 33 := by kernel_rfl
theorem errs5 {W : World} (h : laidMetH Tryd.prog laid5 W) : (∃ tp p, W.var? Tryd.prog "strconv.ErrSyntax" = some #[.iface tp p]) ∧ (∃ tp p, W.var? Tryd.prog "strconv.ErrRange" = some #[.iface tp p]) := by
  rw [MakeChecks.laidMetH_plain _ _ _ (by kernel_rfl)] at h
  have h3 : laidMet Tryd.prog (("strconv.ErrRange", Rows.laid_strconv_ErrRange) :: ("strconv.ErrSyntax", Rows.laid_strconv_ErrSyntax) :: []) W := h.tail.tail.tail
  exact ⟨var_iface gErrS gErrST Tryd.underlying33 h3.tail, var_iface gErrR gErrRT Tryd.underlying33 h3⟩
end Go.Proofs.Qxb6617343aDoor
