/-
  DERIVED. GIVEN WITH THE SEED: THE CARDS: each row of Qxb6617343aDoorRows.lean that lists a variable, with what it lists TIED to the program's text (the seventh form; the later family's looks); each row that meets fmt, with fmt's text TOLD by the authors' own Lean function (tested against real Go, not proved from fmt's source: count such statements apart). THE CARD IS WHAT COUNTS. Prove the row's statement (the work); the ties are given (Qxb6617343aDoorTie.lean); close each card by the builder's one call (the guide's Derived/Test/ToyasCard.lean, 'card_holds'). Laid BY PROGRAM, IN A SANDBOX (cutbox-door.mjs). By AI agents, Wed Nov 11 2026. No macro, syntax, notation, axiom, sorry.
-/
import Derived.Test.Qxb6617343aDoorRows
import GoSem.ClaimSeven
namespace Go.Proofs.Qxb6617343aDoor
namespace Rows

/-- THE TIED CARD OF 'zzlaws_internal_wal_b1.FnLogFileNameRoundTrip'. -/
def fnLogFileNameRoundTripCard : Claim7 := { stood := { row := fnLogFileNameRoundTripRow, standIns := [], harness := (true, "9eeaa724a2b3c6c0e9595023f6e6f68e3727f8f960e19c3c569951de213e2e46"), looks := true }, kinds := [], alts := [], laidByText := true, laidKinds := [.data, .data, .data, .sentinel, .sentinel], laidTests := true, laidLooks := .later }
def FnLogFileNameRoundTripCardSaid : Prop := Claim7.holds Tryd.pinned (.plain (OpenSpec.ofChange fnLogFileNameRoundTripSpec)) fnLogFileNameRoundTripCard

/-- THE TIED CARD OF 'zzlaws_internal_wal_b1.FnLogFileNameAppendsLastDigit'. -/
def fnLogFileNameAppendsLastDigitCard : Claim7 := { stood := { row := fnLogFileNameAppendsLastDigitRow, standIns := [], harness := (true, "9eeaa724a2b3c6c0e9595023f6e6f68e3727f8f960e19c3c569951de213e2e46"), looks := true }, kinds := [], alts := [], laidByText := true, laidKinds := [.data, .data, .data], laidTests := true, laidLooks := .later }
def FnLogFileNameAppendsLastDigitCardSaid : Prop := Claim7.holds Tryd.pinned (.plain (OpenSpec.ofChange fnLogFileNameAppendsLastDigitSpec)) fnLogFileNameAppendsLastDigitCard

/-- THE TIED CARD OF 'zzlaws_internal_wal_b1.FnLogFileNumberAcceptsExactlyCanonicalNames'. -/
def fnLogFileNumberAcceptsExactlyCanonicalNamesCard : Claim7 := { stood := { row := fnLogFileNumberAcceptsExactlyCanonicalNamesRow, standIns := [], harness := (true, "9eeaa724a2b3c6c0e9595023f6e6f68e3727f8f960e19c3c569951de213e2e46"), looks := true }, kinds := [], alts := [], laidByText := true, laidKinds := [.data, .data, .data, .sentinel, .sentinel], laidTests := true, laidLooks := .later }
def FnLogFileNumberAcceptsExactlyCanonicalNamesCardSaid : Prop := Claim7.holds Tryd.pinned (.plain (OpenSpec.ofChange fnLogFileNumberAcceptsExactlyCanonicalNamesSpec)) fnLogFileNumberAcceptsExactlyCanonicalNamesCard
end Rows
end Go.Proofs.Qxb6617343aDoor
