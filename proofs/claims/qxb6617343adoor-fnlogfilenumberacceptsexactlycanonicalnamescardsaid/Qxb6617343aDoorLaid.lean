import Derived.Test.Qxb6617343aDoorLog
import Derived.ProofKit
import Derived.LaidMore
import Derived.OpenShut
import Derived.Stop.Joined
import Derived.Stop.LaidErr
import Derived.Lib.LaidTab
namespace Go.Proofs.Qxb6617343aDoor
open Go.ChangeShapes Go.WideShapes Go.ChangeAt Go.WideMaps Go.WideElems Go.RowKit

theorem own : ownKnob Tryd.prog.godebug = none := by kernel_rfl
def laid3 : List (String × DataW Unit) := Rows.fnLogFileNameAppendsLastDigitRow.laid
def laid5 : List (String × DataW Unit) := Rows.fnLogFileNameRoundTripRow.laid

/-- The door's own heap meets the condition. -/
theorem door3 (os : Os) (args : Array Value) : laidMetH Tryd.prog laid3 ((World.doorLaid Tryd.prog 62 os).forCall (fun _ _ => 0) ⟨#[], args, []⟩).memory :=
  laidMetH_of_parts3 (fuel := 8) (laidMet_of_run' 8 (by kernel_rfl) (by kernel_rfl)) (by kernel_rfl) (by kernel_rfl)
theorem door5 (os : Os) (args : Array Value) : laidMetH Tryd.prog laid5 ((World.doorLaid Tryd.prog 62 os).forCall (fun _ _ => 0) ⟨#[], args, []⟩).memory :=
  laidMetH_of_parts3 (fuel := 8) (laidMet_of_run' 8 (by kernel_rfl) (by kernel_rfl)) (by kernel_rfl) (by kernel_rfl)

theorem gPow : Tryd.prog.globalNamed powName = some 0 := by kernel_rfl
theorem gPowT : (Tryd.prog.globals[0]?).map (·.type) = some 52 := by kernel_rfl
theorem cells22 : Tryd.prog.cellsOf 22 = 1 := by kernel_rfl
theorem cells52 : Tryd.prog.cellsOf 52 = 20 := by kernel_rfl

theorem tab_of {W : World} {rest : List (String × DataW Unit)} (h : laidMet Tryd.prog ((powName, Rows.laid_internal_strconv_uint64pow10) :: rest) W) : Lib.TabIs Tryd.prog W powName .u64 Lib.pow10Tab :=
  Lib.tabIs_of_head gPow gPowT Tryd.underlying52 Tryd.underlying22 cells22 cells52 h
theorem tab3 {W : World} (h : laidMetH Tryd.prog laid3 W) : Lib.TabIs Tryd.prog W powName .u64 Lib.pow10Tab := by
  rw [MakeChecks.laidMetH_plain _ _ _ (by kernel_rfl)] at h
  exact tab_of (rest := []) h.tail.tail
theorem tab5 {W : World} (h : laidMetH Tryd.prog laid5 W) : Lib.TabIs Tryd.prog W powName .u64 Lib.pow10Tab := by
  rw [MakeChecks.laidMetH_plain _ _ _ (by kernel_rfl)] at h
  exact tab_of h.tail.tail
end Go.Proofs.Qxb6617343aDoor
