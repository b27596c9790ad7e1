/-
  Closed facts of the program, that every row of the seat asks.
-/
import Derived.Test.YtfijlaopidgdpaaNewBase
import Derived.Test.YtfijlaopidgdpaaRows
import Derived.WalkKit
import Derived.OpenShut
namespace Go.Proofs.Ytfijlaopidgdpaa
open Go Go.RowKit Go.Proofs.Eng
set_option maxRecDepth 20000
theorem and2 {a b : Bool} (ha : a = true) (hb : b = true) : (a && b) = true := by simp [ha, hb]
theorem P_laid : laidOutB Try.prog = true := by kernel_rfl
theorem P_maps : mapsRowed Try.prog = true := by kernel_rfl
theorem P_keys : (Rows.fnNewOffsetDeleteRequestRow.plainKeys == Try.prog.plainKeys) = true := by kernel_rfl
theorem P_heard : Try.prog.stopsHeard = true := by kernel_rfl
theorem P_enter : Try.prog.mayEnter = true := by kernel_rfl
theorem P_lifts : (Rows.fnNewOffsetDeleteRequestRow.lifted == Try.prog.liftsFinal) = true := by kernel_rfl
theorem P_make : (Try.prog.make == some Rows.fnNewOffsetDeleteRequestRow.make) = true := by kernel_rfl
end Go.Proofs.Ytfijlaopidgdpaa
