/-
  DERIVED. GIVEN WITH THE SEED: THE CARDS: each row of Qxb6604098aDoorRows.lean that lists a variable, with what it lists TIED to the program's text (the seventh form; the later family's looks); each row that meets fmt, with fmt's text TOLD by the authors' own Lean function (tested against real Go, not proved from fmt's source: count such statements apart). THE CARD IS WHAT COUNTS. Prove the row's statement (the work); the ties are given (Qxb6604098aDoorTie.lean); close each card by the builder's one call (the guide's Derived/Test/ToyasCard.lean, 'card_holds'). Laid BY PROGRAM, IN A SANDBOX (cutbox-door.mjs). By AI agents, Wed Nov 11 2026. No macro, syntax, notation, axiom, sorry.
-/
import Derived.Test.Qxb6604098aDoorRows
import GoSem.ClaimSeven
namespace Go.Proofs.Qxb6604098aDoor
namespace Rows

/-- THE TIED CARD OF 'zzlaws_internal_jsoninput_b1.FnEscapedUnitMatchesHexModel'. -/
def fnEscapedUnitMatchesHexModelCard : Claim7 := { stood := { row := fnEscapedUnitMatchesHexModelRow, standIns := [], harness := (true, "296b42cde3ea65192ca1f62f25d4c3ca5ba39ae13a4afb1eaeae3431592c0124"), looks := true }, kinds := [], alts := [], laidByText := true, laidKinds := [.data, .data, .data, .sentinel, .sentinel], laidTests := true, laidLooks := .later }
def FnEscapedUnitMatchesHexModelCardSaid : Prop := Claim7.holds Tryd.pinned (.plain (OpenSpec.ofChange fnEscapedUnitMatchesHexModelSpec)) fnEscapedUnitMatchesHexModelCard

/-- THE TIED CARD OF 'zzlaws_internal_jsoninput_b1.FnEscapedUnitReadsTheUnitThatWasWritten'. -/
def fnEscapedUnitReadsTheUnitThatWasWrittenCard : Claim7 := { stood := { row := fnEscapedUnitReadsTheUnitThatWasWrittenRow, standIns := [], harness := (true, "296b42cde3ea65192ca1f62f25d4c3ca5ba39ae13a4afb1eaeae3431592c0124"), looks := true }, kinds := [], alts := [], laidByText := true, laidKinds := [.data, .data, .data, .sentinel, .sentinel], laidTests := true, laidLooks := .later }
def FnEscapedUnitReadsTheUnitThatWasWrittenCardSaid : Prop := Claim7.holds Tryd.pinned (.plain (OpenSpec.ofChange fnEscapedUnitReadsTheUnitThatWasWrittenSpec)) fnEscapedUnitReadsTheUnitThatWasWrittenCard
end Rows
end Go.Proofs.Qxb6604098aDoor
