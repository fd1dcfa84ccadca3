/-
  What the rows' cell 'laid' gives the walks: what strconv.ErrSyntax holds. And a start that meets it.
-/
import Derived.Test.Qxb6604098aDoorRows
import Derived.ProofKit
import Derived.LaidMore
import Derived.LaidLaws
import Derived.Stop.Joined
import Derived.Stop.LaidErr
namespace Go.Proofs.Qxb6604098aDoor
open Go.RowKit

theorem own : ownKnob Tryd.prog.godebug = none := by kernel_rfl
theorem laidOut : laidOutB Tryd.prog = true := by kernel_rfl
theorem gES : Tryd.prog.globalNamed "strconv.ErrSyntax" = some 0 := by kernel_rfl
theorem gESType : (Tryd.prog.globals[0]?).map (·.type) = some 33 := by kernel_rfl
theorem cells51 : Tryd.prog.cellsOf 51 = 1 := by kernel_rfl
theorem cells9 : Tryd.prog.cellsOf 9 = 1 := by kernel_rfl
theorem cells5 : Tryd.prog.cellsOf 5 = 1 := by kernel_rfl
/-- The name of the sentinel's type, as the rows bear it. -/
def errName : String := match (Rows.laid_strconv_ErrSyntax : DataW Unit) with
  | .iface nm _ => nm
  | _ => "none"
theorem row49 (u : TypeId) (h : Tryd.prog.typeName? 3 u = some errName) : u = 49 :=
  typeName_ptr_named (nm := "errors.errorString") (by kernel_rfl) (by kernel_rfl) (by decide) u (h.trans (by kernel_rfl))

/-- The list that both rows bear. -/
abbrev laid5 : List (String × DataW Unit) := Rows.fnEscapedUnitMatchesHexModelRow.laid

theorem syntax_of_laid {W : World} (h : laidMetH Tryd.prog laid5 W) : ∃ a : Addr, W.cell? ⟨0, 0, none⟩ = some (.iface 49 (.pointer (some a))) := by
  rw [MakeChecks.laidMetH_plain _ _ _ (by kernel_rfl)] at h
  obtain ⟨a0, s0, hv0, -, -, -⟩ := laid_sentinel h.tail.tail.tail.tail gES gESType Tryd.underlying33 row49 Tryd.underlying49 Tryd.underlying51 rfl rfl Tryd.underlying9 cells51 cells9
  exact ⟨a0, by have h0 := World.var?_cell gES hv0 0; simpa using h0⟩

/-- The door's own heap meets the condition. -/
theorem door_met (os : Os) (args : Array Value) : laidMetH Tryd.prog laid5 ((World.doorLaid Tryd.prog 400 os).forCall (fun _ _ => 0) ⟨#[], args, []⟩).memory :=
  laidMetH_of_parts3 (fuel := 8) (laidMet_of_run' 8 (by kernel_rfl) (by kernel_rfl)) (by kernel_rfl) (by kernel_rfl)
end Go.Proofs.Qxb6604098aDoor
