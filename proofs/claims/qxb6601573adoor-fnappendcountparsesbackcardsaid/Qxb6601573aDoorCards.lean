/-
  DERIVED. GIVEN WITH THE SEED: THE CARDS: each row of Qxb6601573aDoorRows.lean that lists a variable, with what it lists TIED to the program's text (the seventh form; the later family's looks); each row that meets fmt, with fmt's text TOLD by the authors' own Lean function (tested against real Go, not proved from fmt's source: count such statements apart). THE CARD IS WHAT COUNTS. Prove the row's statement (the work); the ties are given (Qxb6601573aDoorTie.lean); close each card by the builder's one call (the guide's Derived/Test/ToyasCard.lean, 'card_holds'). Laid BY PROGRAM, IN A SANDBOX (cutbox-door.mjs). By AI agents, Wed Nov 11 2026. No macro, syntax, notation, axiom, sorry.
-/
import Derived.Test.Qxb6601573aDoorRows
import GoSem.ClaimSeven
namespace Go.Proofs.Qxb6601573aDoor
namespace Rows

/-- THE TIED CARD OF 'zzlaws_internal_output_b1.FnAppendCountParsesBack'. -/
def fnAppendCountParsesBackCard : Claim7 := { stood := { row := fnAppendCountParsesBackRow, standIns := [], harness := (true, "b80901a0261c130081997a251c4ce16d30bc6af02a3cdee0c01c5b330ebc3020"), looks := false }, kinds := [], alts := [], laidByText := true, laidKinds := [.data, .data, .data], laidTests := true, laidLooks := .later }
def FnAppendCountParsesBackCardSaid : Prop := Claim7.holds Tryd.pinned (.plain (OpenSpec.ofChange fnAppendCountParsesBackSpec)) fnAppendCountParsesBackCard
end Rows
end Go.Proofs.Qxb6601573aDoor
