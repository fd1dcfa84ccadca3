/-
  No cell of these rows narrows 'for every input' (looked for: loops, veiled, ifaces, maps, wideKeys, modest, calm, conditions, laid).
  DERIVED. THE GIVEN ROWS OF THIS SEAT. 4 by the template 'for every input the law returns true; each argument reads behind the call as it read before'; 0 by the template 'total and deterministic' (their statements: Qxb6604080aTotals.lean).
  GIVEN WITH THE SEED: the statements are not yours to turn. If you find one false, say at which input.
  Laid BY PROGRAM, IN A SANDBOX (cutbox-rows.mjs): the forced cells as the released guide's own fill.sh prints them over the translation cd46ea5182b4e398… (all of the seat's roots in one cut). By AI agents, Wed Nov 11 2026. No macro, syntax, notation, axiom, sorry.
-/
import Derived.Test.Qxb6604080aChecked
import GoSem.Claim
import GoSem.ClaimJoined
import GoSem.ClaimMapViews
import Derived.JoinedTies
import Derived.KernelRfl
namespace Go.Proofs.Qxb6604080a
/- THE CELL 'sum', in the pinned program and in every row, IS THE sha256 OF THE DUMP (.gsa) THAT Qxb6604080aProg.lean LOADS. Nothing in Lean hashes anything: it is a label: what it is worth is what the hold of that sum in a sandbox is worth. -/
noncomputable def Try.pinned : Pinned := { name := "qxb6604080a", sum := "cd46ea5182b4e398a9f4edc28a2b94a3b11beb36cc6bc0f9dcd444f694993805", checked := Try.checked }
namespace Rows
def none {H : Type} : Left H := { results := [], args := [] }

/-- 'zzlaws_postgres_b1.FnClaimingSplicesEventsVerbatim': WHATEVER THE INPUT: true; the input reads as it did. -/
def fnClaimingSplicesEventsVerbatimSpec : ChangeSpec := { name := "fnClaimingSplicesEventsVerbatim", fn := fun _ => fun
  | [d] => { results := [.lit (.bool true)], args := [d] }
  | _ => none }
def fnClaimingSplicesEventsVerbatimRow : OpenClaim := { program := "qxb6604080a", sum := "cd46ea5182b4e398a9f4edc28a2b94a3b11beb36cc6bc0f9dcd444f694993805", func := "example.com/announce/announce/zzlaws_postgres_b1.FnClaimingSplicesEventsVerbatim", spec := "fnClaimingSplicesEventsVerbatim", apart := false }
def FnClaimingSplicesEventsVerbatimSaid : Prop := fnClaimingSplicesEventsVerbatimRow.holds Try.pinned (OpenSpec.ofChange fnClaimingSplicesEventsVerbatimSpec)

/-- ITS FALSE NEIGHBOUR: 'it returns false'. Refute it at one input. -/
def fnClaimingSplicesEventsVerbatimWrong : ChangeSpec := { name := "fnClaimingSplicesEventsVerbatim", fn := fun _ => fun
  | [d] => { results := [.lit (.bool false)], args := [d] }
  | _ => none }
def FnClaimingSplicesEventsVerbatimWrongFalsely : Prop := fnClaimingSplicesEventsVerbatimRow.holds Try.pinned (OpenSpec.ofChange fnClaimingSplicesEventsVerbatimWrong)

/-- 'zzlaws_postgres_b1.FnClaimingInjective': WHATEVER THE INPUT: true; the input reads as it did. -/
def fnClaimingInjectiveSpec : ChangeSpec := { name := "fnClaimingInjective", fn := fun _ => fun
  | [d1, d2] => { results := [.lit (.bool true)], args := [d1, d2] }
  | _ => none }
def fnClaimingInjectiveRow : OpenClaim := { program := "qxb6604080a", sum := "cd46ea5182b4e398a9f4edc28a2b94a3b11beb36cc6bc0f9dcd444f694993805", func := "example.com/announce/announce/zzlaws_postgres_b1.FnClaimingInjective", spec := "fnClaimingInjective", apart := false }
def FnClaimingInjectiveSaid : Prop := fnClaimingInjectiveRow.holds Try.pinned (OpenSpec.ofChange fnClaimingInjectiveSpec)

/-- ITS FALSE NEIGHBOUR: 'it returns false'. Refute it at one input. -/
def fnClaimingInjectiveWrong : ChangeSpec := { name := "fnClaimingInjective", fn := fun _ => fun
  | [d1, d2] => { results := [.lit (.bool false)], args := [d1, d2] }
  | _ => none }
def FnClaimingInjectiveWrongFalsely : Prop := fnClaimingInjectiveRow.holds Try.pinned (OpenSpec.ofChange fnClaimingInjectiveWrong)

/-- 'zzlaws_postgres_b1.FnFinishingInOrderSplicesTheirConcatenation': WHATEVER THE INPUT: true; the input reads as it did. -/
def fnFinishingInOrderSplicesTheirConcatenationSpec : ChangeSpec := { name := "fnFinishingInOrderSplicesTheirConcatenation", fn := fun _ => fun
  | [d1, d2] => { results := [.lit (.bool true)], args := [d1, d2] }
  | _ => none }
def fnFinishingInOrderSplicesTheirConcatenationRow : OpenClaim := { program := "qxb6604080a", sum := "cd46ea5182b4e398a9f4edc28a2b94a3b11beb36cc6bc0f9dcd444f694993805", func := "example.com/announce/announce/zzlaws_postgres_b1.FnFinishingInOrderSplicesTheirConcatenation", spec := "fnFinishingInOrderSplicesTheirConcatenation", apart := false }
def FnFinishingInOrderSplicesTheirConcatenationSaid : Prop := fnFinishingInOrderSplicesTheirConcatenationRow.holds Try.pinned (OpenSpec.ofChange fnFinishingInOrderSplicesTheirConcatenationSpec)

/-- ITS FALSE NEIGHBOUR: 'it returns false'. Refute it at one input. -/
def fnFinishingInOrderSplicesTheirConcatenationWrong : ChangeSpec := { name := "fnFinishingInOrderSplicesTheirConcatenation", fn := fun _ => fun
  | [d1, d2] => { results := [.lit (.bool false)], args := [d1, d2] }
  | _ => none }
def FnFinishingInOrderSplicesTheirConcatenationWrongFalsely : Prop := fnFinishingInOrderSplicesTheirConcatenationRow.holds Try.pinned (OpenSpec.ofChange fnFinishingInOrderSplicesTheirConcatenationWrong)

/-- 'zzlaws_postgres_b1.FnOrderedClaimStatementSplicesBothVerbatim': WHATEVER THE INPUT: true; the input reads as it did. -/
def fnOrderedClaimStatementSplicesBothVerbatimSpec : ChangeSpec := { name := "fnOrderedClaimStatementSplicesBothVerbatim", fn := fun _ => fun
  | [d1, d2] => { results := [.lit (.bool true)], args := [d1, d2] }
  | _ => none }
def fnOrderedClaimStatementSplicesBothVerbatimRow : OpenClaim := { program := "qxb6604080a", sum := "cd46ea5182b4e398a9f4edc28a2b94a3b11beb36cc6bc0f9dcd444f694993805", func := "example.com/announce/announce/zzlaws_postgres_b1.FnOrderedClaimStatementSplicesBothVerbatim", spec := "fnOrderedClaimStatementSplicesBothVerbatim", apart := false }
def FnOrderedClaimStatementSplicesBothVerbatimSaid : Prop := fnOrderedClaimStatementSplicesBothVerbatimRow.holds Try.pinned (OpenSpec.ofChange fnOrderedClaimStatementSplicesBothVerbatimSpec)

/-- ITS FALSE NEIGHBOUR: 'it returns false'. Refute it at one input. -/
def fnOrderedClaimStatementSplicesBothVerbatimWrong : ChangeSpec := { name := "fnOrderedClaimStatementSplicesBothVerbatim", fn := fun _ => fun
  | [d1, d2] => { results := [.lit (.bool false)], args := [d1, d2] }
  | _ => none }
def FnOrderedClaimStatementSplicesBothVerbatimWrongFalsely : Prop := fnOrderedClaimStatementSplicesBothVerbatimRow.holds Try.pinned (OpenSpec.ofChange fnOrderedClaimStatementSplicesBothVerbatimWrong)

end Rows
end Go.Proofs.Qxb6604080a
