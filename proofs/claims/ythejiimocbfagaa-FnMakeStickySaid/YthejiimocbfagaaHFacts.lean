/-
  Closed facts of the program, that every row of the seat asks.
-/
import Derived.Test.YthejiimocbfagaaKbin
import Derived.Test.YthejiimocbfagaaRows
import Derived.WalkKit
import Derived.OpenShut
set_option linter.unusedVariables false
set_option linter.unusedSimpArgs false
namespace Go.Proofs.Ythejiimocbfagaa
open Go Go.RowKit Go.Proofs.Eng
set_option maxRecDepth 20000
theorem and2 {a b : Bool} (ha : a = true) (hb : b = true) : (a && b) = true := by simp [ha, hb]
theorem P_laid : laidOutB Try.prog = true := by kernel_rfl
theorem P_maps : mapsRowed Try.prog = true := by kernel_rfl
theorem P_keys : (Rows.fnMakeHeaderRow.plainKeys == Try.prog.plainKeys) = true := by kernel_rfl
theorem P_heard : Try.prog.stopsHeard = true := by kernel_rfl
theorem P_enter : Try.prog.mayEnter = true := by kernel_rfl
theorem P_lifts : (Rows.fnMakeHeaderRow.lifted == Try.prog.liftsFinal) = true := by kernel_rfl
theorem P_make : (Try.prog.make == some Rows.fnMakeHeaderRow.make) = true := by kernel_rfl
end Go.Proofs.Ythejiimocbfagaa
