/-
  No cell of these rows narrows 'for every input' (looked for: loops, veiled, ifaces, maps, wideKeys, modest, calm, conditions, laid).
  DERIVED. THE GIVEN ROWS OF THIS SEAT. 2 by the template 'for every input the law returns true; each argument reads behind the call as it read before'; 0 by the template 'total and deterministic' (their statements: Qxb6617343aTotals.lean).
  GIVEN WITH THE SEED: the statements are not yours to turn. If you find one false, say at which input.
  Laid BY PROGRAM, IN A SANDBOX (cutbox-rows.mjs): the forced cells as the released guide's own fill.sh prints them over the translation 06a8db3687691b69… (all of the seat's roots in one cut). By AI agents, Wed Nov 11 2026. No macro, syntax, notation, axiom, sorry.
-/
import Derived.Test.Qxb6617343aChecked
import GoSem.Claim
import GoSem.ClaimJoined
import GoSem.ClaimMapViews
import Derived.JoinedTies
import Derived.KernelRfl
namespace Go.Proofs.Qxb6617343a
/- THE CELL 'sum', in the pinned program and in every row, IS THE sha256 OF THE DUMP (.gsa) THAT Qxb6617343aProg.lean LOADS. Nothing in Lean hashes anything: it is a label: what it is worth is what the hold of that sum in a sandbox is worth. -/
noncomputable def Try.pinned : Pinned := { name := "qxb6617343a", sum := "06a8db3687691b6968a9131122280d48c3e5fd8f5891b4155247f1acb5cfa8a6", checked := Try.checked }
namespace Rows
def none {H : Type} : Left H := { results := [], args := [] }

/-- 'zzlaws_internal_wal_b1.FnTableStateChangeExact': WHATEVER THE INPUT: true; the input reads as it did. -/
def fnTableStateChangeExactSpec : ChangeSpec := { name := "fnTableStateChangeExact", fn := fun _ => fun
  | [d1, d2, d3, d4, d5, d6, d7, d8, d9, d10, d11, d12] => { results := [.lit (.bool true)], args := [d1, d2, d3, d4, d5, d6, d7, d8, d9, d10, d11, d12] }
  | _ => none }
def fnTableStateChangeExactRow : OpenClaim := { program := "qxb6617343a", sum := "06a8db3687691b6968a9131122280d48c3e5fd8f5891b4155247f1acb5cfa8a6", func := "example.com/palimpsest/palimpsest/zzlaws_internal_wal_b1.FnTableStateChangeExact", spec := "fnTableStateChangeExact", inPlace := ["internal/bytealg.Compare"], unfollowed := true, recurses := true, apart := false }
def FnTableStateChangeExactSaid : Prop := fnTableStateChangeExactRow.holds Try.pinned (OpenSpec.ofChange fnTableStateChangeExactSpec)

/-- ITS FALSE NEIGHBOUR: 'it returns false'. Refute it at one input. -/
def fnTableStateChangeExactWrong : ChangeSpec := { name := "fnTableStateChangeExact", fn := fun _ => fun
  | [d1, d2, d3, d4, d5, d6, d7, d8, d9, d10, d11, d12] => { results := [.lit (.bool false)], args := [d1, d2, d3, d4, d5, d6, d7, d8, d9, d10, d11, d12] }
  | _ => none }
def FnTableStateChangeExactWrongFalsely : Prop := fnTableStateChangeExactRow.holds Try.pinned (OpenSpec.ofChange fnTableStateChangeExactWrong)

/-- 'zzlaws_internal_wal_b1.FnTableStateChangeScriptNewestWins': WHATEVER THE INPUT: true; the input reads as it did. -/
def fnTableStateChangeScriptNewestWinsSpec : ChangeSpec := { name := "fnTableStateChangeScriptNewestWins", fn := fun _ => fun
  | [d1, d2, d3, d4, d5, d6, d7, d8] => { results := [.lit (.bool true)], args := [d1, d2, d3, d4, d5, d6, d7, d8] }
  | _ => none }
def fnTableStateChangeScriptNewestWinsRow : OpenClaim := { program := "qxb6617343a", sum := "06a8db3687691b6968a9131122280d48c3e5fd8f5891b4155247f1acb5cfa8a6", func := "example.com/palimpsest/palimpsest/zzlaws_internal_wal_b1.FnTableStateChangeScriptNewestWins", spec := "fnTableStateChangeScriptNewestWins", inPlace := ["internal/bytealg.Compare"], unfollowed := true, recurses := true, apart := false }
def FnTableStateChangeScriptNewestWinsSaid : Prop := fnTableStateChangeScriptNewestWinsRow.holds Try.pinned (OpenSpec.ofChange fnTableStateChangeScriptNewestWinsSpec)

/-- ITS FALSE NEIGHBOUR: 'it returns false'. Refute it at one input. -/
def fnTableStateChangeScriptNewestWinsWrong : ChangeSpec := { name := "fnTableStateChangeScriptNewestWins", fn := fun _ => fun
  | [d1, d2, d3, d4, d5, d6, d7, d8] => { results := [.lit (.bool false)], args := [d1, d2, d3, d4, d5, d6, d7, d8] }
  | _ => none }
def FnTableStateChangeScriptNewestWinsWrongFalsely : Prop := fnTableStateChangeScriptNewestWinsRow.holds Try.pinned (OpenSpec.ofChange fnTableStateChangeScriptNewestWinsWrong)

end Rows
end Go.Proofs.Qxb6617343a
