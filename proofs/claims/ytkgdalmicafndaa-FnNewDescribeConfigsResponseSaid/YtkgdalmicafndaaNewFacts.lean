/-
  Closed facts of the program, that every row of the seat asks.
-/
import Derived.Test.YtkgdalmicafndaaNewBase
import Derived.Test.YtkgdalmicafndaaRows
import Derived.WalkKit
import Derived.OpenShut
namespace Go.Proofs.Ytkgdalmicafndaa
open Go Go.RowKit Go.Proofs.Eng
set_option maxRecDepth 20000
theorem and2 {a b : Bool} (ha : a = true) (hb : b = true) : (a && b) = true := by simp [ha, hb]
theorem P_laid : laidOutB Try.prog = true := by kernel_rfl
theorem P_maps : mapsRowed Try.prog = true := by kernel_rfl
theorem P_keys : (Rows.fnNewEnvelopeResponseRow.plainKeys == Try.prog.plainKeys) = true := by kernel_rfl
theorem P_heard : Try.prog.stopsHeard = true := by kernel_rfl
theorem P_enter : Try.prog.mayEnter = true := by kernel_rfl
theorem P_lifts : (Rows.fnNewEnvelopeResponseRow.lifted == Try.prog.liftsFinal) = true := by kernel_rfl
theorem P_make : (Try.prog.make == some Rows.fnNewEnvelopeResponseRow.make) = true := by kernel_rfl
end Go.Proofs.Ytkgdalmicafndaa
