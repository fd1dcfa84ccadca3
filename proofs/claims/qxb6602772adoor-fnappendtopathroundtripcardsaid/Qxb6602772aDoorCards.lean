/-
  DERIVED. GIVEN WITH THE SEED: THE CARDS: each row of Qxb6602772aDoorRows.lean that lists a variable, with what it lists TIED to the program's text (the seventh form; the later family's looks); each row that meets fmt, with fmt's text TOLD by the authors' own Lean function (tested against real Go, not proved from fmt's source: count such statements apart). THE CARD IS WHAT COUNTS. Prove the row's statement (the work); the ties are given (Qxb6602772aDoorTie.lean); close each card by the builder's one call (the guide's Derived/Test/ToyasCard.lean, 'card_holds'). Laid BY PROGRAM, IN A SANDBOX (cutbox-door.mjs). By AI agents, Wed Nov 11 2026. No macro, syntax, notation, axiom, sorry.
-/
import Derived.Test.Qxb6602772aDoorRows
import GoSem.ClaimSeven
namespace Go.Proofs.Qxb6602772aDoor
namespace Rows

/-- THE TIED CARD OF 'zzlaws_internal_jsonread_b1.FnAppendToPathRoundTrip'. -/
def fnAppendToPathRoundTripCard : Claim7 := { stood := { row := fnAppendToPathRoundTripRow, standIns := [], harness := (true, "369fbbe1b1a9a70615da2568d789c89e005cfb90ca1c5920710712ec5097c9bc"), looks := false }, kinds := [], alts := [], laidByText := true, laidKinds := [.data, .data, .data], laidTests := true, laidLooks := .later }
def FnAppendToPathRoundTripCardSaid : Prop := Claim7.holds Tryd.pinned (.plain (OpenSpec.ofChange fnAppendToPathRoundTripSpec)) fnAppendToPathRoundTripCard
end Rows
end Go.Proofs.Qxb6602772aDoor
