/-
  Closed facts of the program, that every row of the seat asks; what the package's variable holds.
-/
import Derived.Test.YtbcfmhgcpijfnaaDoorAgBase
import Derived.Test.YtbcfmhgcpijfnaaDoorAgOpen
import Derived.Test.YtbcfmhgcpijfnaaDoorRows
import Derived.WalkKit
import Derived.OpenShut
import Derived.LaidLaws
import Derived.Deep.DeepHandedRow
set_option linter.unusedVariables false
set_option linter.unusedSimpArgs false
namespace Go.Proofs.YtbcfmhgcpijfnaaDoor
open Go Go.RowKit Go.Proofs.Eng
set_option maxRecDepth 20000
theorem and2 {a b : Bool} (ha : a = true) (hb : b = true) : (a && b) = true := by simp [ha, hb]
theorem P_laid : laidOutB Tryd.prog = true := by kernel_rfl
theorem P_maps : mapsRowed Tryd.prog = true := by kernel_rfl
theorem P_keys : (Rows.fnAnyFetchSnapshotResponseRow.plainKeys == Tryd.prog.plainKeys) = true := by kernel_rfl
theorem P_heard : Tryd.prog.stopsHeard = true := by kernel_rfl
theorem P_enter : Tryd.prog.mayEnter = true := by kernel_rfl
theorem P_lifts : (Rows.fnAnyFetchSnapshotResponseRow.lifted == Tryd.prog.liftsFinal) = true := by kernel_rfl
theorem P_make : (Tryd.prog.make == some Rows.fnAnyFetchSnapshotResponseRow.make) = true := by kernel_rfl
theorem own : ownKnob Tryd.prog.godebug = none := by kernel_rfl
theorem cellsU8 : Tryd.prog.cellsOf 5 = 1 := by kernel_rfl
theorem gErr : Tryd.prog.globalNamed "pub-kmsg/pub/kmsg/inner/kbin.ErrNotEnoughData" = some 1 := by kernel_rfl
theorem gErrType : (Tryd.prog.globals[1]?).map (·.type) = some 35 := by kernel_rfl
abbrev laidL : List (String × DataW Unit) := [("pub-kmsg/pub/kmsg/inner/kbin.ErrNotEnoughData", Rows.laid_pub_kmsg_pub_kmsg_inner_kbin_ErrNotEnoughData)]
theorem laidL_plain : (laidL.filter fun x => x.2.handleName?.isSome) = [] := by kernel_rfl
/-- The variable holds an error. -/
theorem sentinel {W : World} (h : laidMetH Tryd.prog laidL W) : ∃ E, (∃ u q, E = Value.iface u q) ∧ W.cell? ⟨1, 0, none⟩ = some E := by
  have h' : laidMet Tryd.prog laidL W := by
    unfold laidMetH at h
    rw [laidL_plain] at h
    exact h
  obtain ⟨ps, ⟨g0, t0, cs0, f0, p0, q0, hg0, ht0, hv0, hd0, _⟩, _, _⟩ := h'
  obtain rfl := Option.some.inj (gErr.symm.trans hg0)
  obtain rfl := Option.some.inj (gErrType.symm.trans ht0)
  obtain ⟨l0⟩ := cs0
  obtain ⟨f1, u, v, hcs, _, _⟩ := iface_of_trod Tryd.underlying35 hd0
  simp only at hcs
  subst hcs
  exact ⟨.iface u v, ⟨u, v, rfl⟩, by simpa using World.var?_cell gErr hv0 0⟩
abbrev errS : ByteArray := { data := #[114, 101, 115, 112, 111, 110, 115, 101, 32, 100, 105, 100, 32, 110, 111, 116, 32, 99, 111, 110, 116, 97, 105, 110, 32, 101, 110, 111, 117, 103, 104, 32, 100, 97, 116, 97, 32, 116, 111, 32, 98, 101, 32, 118, 97, 108, 105, 100] }
noncomputable def low : Nat := (World.holding Tryd.prog default ⟨#[], #[], []⟩).heap.size
/-- A world for the witness: the variable holds what its initialiser lays. -/
noncomputable def laidWorld (os : Os) : World :=
  let w0 := World.holding Tryd.prog os ⟨#[.cells #[.string errS] 155], #[], []⟩
  { w0 with heap := w0.heap.modify 1 fun
      | .cells _ t frozen => .cells #[.iface 138 (.pointer (some ⟨low, 0, none⟩))] t frozen
      | o => o }
theorem laid_met (os : Os) (args : Array Value) : laidMet Tryd.prog laidL ((laidWorld os).forCall (fun _ _ => 0) ⟨#[], args, []⟩).memory :=
  laidMet_of_run (ps := [.cell 1 0, .cell low 0]) 8 (by kernel_rfl) (by kernel_rfl) (by kernel_rfl)
end Go.Proofs.YtbcfmhgcpijfnaaDoor
