/-
  No cell of these rows narrows 'for every input' (looked for: loops, veiled, ifaces, maps, wideKeys, modest, calm, conditions, laid).
  DERIVED. THE GIVEN ROWS OF THIS SEAT. 4 by the template 'for every input the law returns true; each argument reads behind the call as it read before'; 0 by the template 'total and deterministic' (their statements: Qxb6617310aTotals.lean).
  GIVEN WITH THE SEED: the statements are not yours to turn. If you find one false, say at which input.
  Laid BY PROGRAM, IN A SANDBOX (cutbox-rows.mjs): the forced cells as the released guide's own fill.sh prints them over the translation a346aa11a608523c… (all of the seat's roots in one cut). By AI agents, Wed Nov 11 2026. No macro, syntax, notation, axiom, sorry.
-/
import Derived.Test.Qxb6617310aChecked
import GoSem.Claim
import GoSem.ClaimJoined
import GoSem.ClaimMapViews
import Derived.JoinedTies
import Derived.KernelRfl
namespace Go.Proofs.Qxb6617310a
/- THE CELL 'sum', in the pinned program and in every row, IS THE sha256 OF THE DUMP (.gsa) THAT Qxb6617310aProg.lean LOADS. Nothing in Lean hashes anything: it is a label: what it is worth is what the hold of that sum in a sandbox is worth. -/
noncomputable def Try.pinned : Pinned := { name := "qxb6617310a", sum := "a346aa11a608523c4e9cd62662e2ddc2b87e1e47d59888ae02fda90e396405c1", checked := Try.checked }
namespace Rows
def none {H : Type} : Left H := { results := [], args := [] }

/-- 'zzlaws_internal_input_b1.FnContainsInsertAndCut': WHATEVER THE INPUT: true; the input reads as it did. -/
def fnContainsInsertAndCutSpec : ChangeSpec := { name := "fnContainsInsertAndCut", fn := fun _ => fun
  | [d1, d2, d3, d4] => { results := [.lit (.bool true)], args := [d1, d2, d3, d4] }
  | _ => none }
def fnContainsInsertAndCutRow : OpenClaim := { program := "qxb6617310a", sum := "a346aa11a608523c4e9cd62662e2ddc2b87e1e47d59888ae02fda90e396405c1", func := "example.com/marklevel/marklevel/zzlaws_internal_input_b1.FnContainsInsertAndCut", spec := "fnContainsInsertAndCut", apart := false }
def FnContainsInsertAndCutSaid : Prop := fnContainsInsertAndCutRow.holds Try.pinned (OpenSpec.ofChange fnContainsInsertAndCutSpec)

/-- ITS FALSE NEIGHBOUR: 'it returns false'. Refute it at one input. -/
def fnContainsInsertAndCutWrong : ChangeSpec := { name := "fnContainsInsertAndCut", fn := fun _ => fun
  | [d1, d2, d3, d4] => { results := [.lit (.bool false)], args := [d1, d2, d3, d4] }
  | _ => none }
def FnContainsInsertAndCutWrongFalsely : Prop := fnContainsInsertAndCutRow.holds Try.pinned (OpenSpec.ofChange fnContainsInsertAndCutWrong)

/-- 'zzlaws_internal_input_b1.FnFitsCutAndSelf': WHATEVER THE INPUT: true; the input reads as it did. -/
def fnFitsCutAndSelfSpec : ChangeSpec := { name := "fnFitsCutAndSelf", fn := fun _ => fun
  | [d1, d2, d3] => { results := [.lit (.bool true)], args := [d1, d2, d3] }
  | _ => none }
def fnFitsCutAndSelfRow : OpenClaim := { program := "qxb6617310a", sum := "a346aa11a608523c4e9cd62662e2ddc2b87e1e47d59888ae02fda90e396405c1", func := "example.com/marklevel/marklevel/zzlaws_internal_input_b1.FnFitsCutAndSelf", spec := "fnFitsCutAndSelf", apart := false }
def FnFitsCutAndSelfSaid : Prop := fnFitsCutAndSelfRow.holds Try.pinned (OpenSpec.ofChange fnFitsCutAndSelfSpec)

/-- ITS FALSE NEIGHBOUR: 'it returns false'. Refute it at one input. -/
def fnFitsCutAndSelfWrong : ChangeSpec := { name := "fnFitsCutAndSelf", fn := fun _ => fun
  | [d1, d2, d3] => { results := [.lit (.bool false)], args := [d1, d2, d3] }
  | _ => none }
def FnFitsCutAndSelfWrongFalsely : Prop := fnFitsCutAndSelfRow.holds Try.pinned (OpenSpec.ofChange fnFitsCutAndSelfWrong)

/-- 'zzlaws_internal_input_b1.FnFitsOneByteChanged': WHATEVER THE INPUT: true; the input reads as it did. -/
def fnFitsOneByteChangedSpec : ChangeSpec := { name := "fnFitsOneByteChanged", fn := fun _ => fun
  | [d1, d2, d3] => { results := [.lit (.bool true)], args := [d1, d2, d3] }
  | _ => none }
def fnFitsOneByteChangedRow : OpenClaim := { program := "qxb6617310a", sum := "a346aa11a608523c4e9cd62662e2ddc2b87e1e47d59888ae02fda90e396405c1", func := "example.com/marklevel/marklevel/zzlaws_internal_input_b1.FnFitsOneByteChanged", spec := "fnFitsOneByteChanged", apart := false }
def FnFitsOneByteChangedSaid : Prop := fnFitsOneByteChangedRow.holds Try.pinned (OpenSpec.ofChange fnFitsOneByteChangedSpec)

/-- ITS FALSE NEIGHBOUR: 'it returns false'. Refute it at one input. -/
def fnFitsOneByteChangedWrong : ChangeSpec := { name := "fnFitsOneByteChanged", fn := fun _ => fun
  | [d1, d2, d3] => { results := [.lit (.bool false)], args := [d1, d2, d3] }
  | _ => none }
def FnFitsOneByteChangedWrongFalsely : Prop := fnFitsOneByteChangedRow.holds Try.pinned (OpenSpec.ofChange fnFitsOneByteChangedWrong)

/-- 'zzlaws_internal_input_b1.FnNumberInsertByte': WHATEVER THE INPUT: true; the input reads as it did. -/
def fnNumberInsertByteSpec : ChangeSpec := { name := "fnNumberInsertByte", fn := fun _ => fun
  | [d1, d2, d3] => { results := [.lit (.bool true)], args := [d1, d2, d3] }
  | _ => none }
def fnNumberInsertByteRow : OpenClaim := { program := "qxb6617310a", sum := "a346aa11a608523c4e9cd62662e2ddc2b87e1e47d59888ae02fda90e396405c1", func := "example.com/marklevel/marklevel/zzlaws_internal_input_b1.FnNumberInsertByte", spec := "fnNumberInsertByte", apart := false }
def FnNumberInsertByteSaid : Prop := fnNumberInsertByteRow.holds Try.pinned (OpenSpec.ofChange fnNumberInsertByteSpec)

/-- ITS FALSE NEIGHBOUR: 'it returns false'. Refute it at one input. -/
def fnNumberInsertByteWrong : ChangeSpec := { name := "fnNumberInsertByte", fn := fun _ => fun
  | [d1, d2, d3] => { results := [.lit (.bool false)], args := [d1, d2, d3] }
  | _ => none }
def FnNumberInsertByteWrongFalsely : Prop := fnNumberInsertByteRow.holds Try.pinned (OpenSpec.ofChange fnNumberInsertByteWrong)

end Rows
end Go.Proofs.Qxb6617310a
