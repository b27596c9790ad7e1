/-
  Closed facts of the program, that the row asks; a world in which the five variables hold what their initialisers lay.
-/
import Derived.Test.YthelpljefckgkaaDoorCfg4
import Derived.Test.YthelpljefckgkaaDoorRows
import Derived.WalkKit
import Derived.OpenShut
import Derived.LaidLaws
import Derived.Deep.DeepHandedRow
import Derived.Lib.LaidCaseMet
import Derived.Lib.LaidTab
import Derived.PinnedBridge
import Derived.Stop.LaidErr
set_option linter.unusedVariables false
set_option linter.unusedSimpArgs false
namespace Go.Proofs.YthelpljefckgkaaDoor
open Go Go.RowKit Go.Proofs.Eng Go.Shelf
set_option maxRecDepth 20000
theorem and2 {a b : Bool} (ha : a = true) (hb : b = true) : (a && b) = true := by simp [ha, hb]
theorem P_laid : laidOutB Tryd.prog = true := by kernel_rfl
theorem P_maps : mapsRowed Tryd.prog = true := by kernel_rfl
theorem P_keys : (Rows.fnConfigTypeTextRow.plainKeys == Tryd.prog.plainKeys) = true := by kernel_rfl
theorem P_heard : Tryd.prog.stopsHeard = true := by kernel_rfl
theorem P_enter : Tryd.prog.mayEnter = true := by kernel_rfl
theorem P_lifts : (Rows.fnConfigTypeTextRow.lifted == Tryd.prog.liftsFinal) = true := by kernel_rfl
theorem P_make : (Tryd.prog.make == some Rows.fnConfigTypeTextRow.make) = true := by kernel_rfl
theorem own : ownKnob Tryd.prog.godebug = none := by kernel_rfl
theorem laidMet_swap {P : Program} {w : World} {x y : String × DataW Unit} : ∀ {a : List (String × DataW Unit)}, laidMet P (a ++ [x, y]) w → laidMet P (a ++ [y, x]) w := by
  have key : ∀ (a : List (String × DataW Unit)) (ps : List MemPlace), DataW.LaidVars P w (a ++ [x, y]) ps → ∃ qs, DataW.LaidVars P w (a ++ [y, x]) qs ∧ List.Perm ps qs := by
    intro a
    induction a with
    | nil =>
      rintro ps ⟨g, t, cs, fu, p, q, h1, h2, h3, h4, ⟨g', t', cs', fu', p', q', h1', h2', h3', h4', h5, rfl⟩, rfl⟩
      obtain rfl : q' = [] := h5
      refine ⟨_, ⟨g', t', cs', fu', p', _, h1', h2', h3', h4', ⟨g, t, cs, fu, p, [], h1, h2, h3, h4, rfl, rfl⟩, rfl⟩, ?_⟩
      simp only [List.append_nil]
      exact List.perm_append_comm
    | cons z a ih =>
      rintro ps ⟨g, t, cs, fu, p, q, h1, h2, h3, h4, h5, rfl⟩
      obtain ⟨qs, h6, h7⟩ := ih q h5
      exact ⟨_, ⟨g, t, cs, fu, p, qs, h1, h2, h3, h4, h6, rfl⟩, h7.append_left _⟩
  rintro a ⟨ps, h1, h2, h3⟩
  obtain ⟨qs, h4, h5⟩ := key a ps h1
  exact ⟨qs, h4, h5.nodup_iff.1 h2, fun b off hb => h3 b off (h5.mem_iff.2 hb)⟩
theorem ascii_eq : (Rows.laid_strings_asciiSpace : DataW Unit) = Lib.tabData .u8 Lib.asciiSpaceTab := by kernel_rfl
theorem first_eq : (Rows.laid_unicode_utf8_first : DataW Unit) = Lib.firstData := by kernel_rfl
theorem accept_eq : (Rows.laid_unicode_utf8_acceptRanges : DataW Unit) = Lib.acceptData := by kernel_rfl
theorem white_eq : (Rows.laid_unicode_White_Space : DataW Unit) = Lib.whiteData := by kernel_rfl
abbrev laidL : List (String × DataW Unit) := Rows.fnConfigTypeTextRow.laid
theorem laidL_plain : (laidL.filter fun x => x.2.handleName?.isSome) = [] := by kernel_rfl
theorem tab_of {W : World} (h : laidMetH Tryd.prog laidL W) : Tab W := by
  have h' : laidMet Tryd.prog laidL W := by
    unfold laidMetH at h
    rw [laidL_plain] at h
    exact h
  have h2 : laidMet Tryd.prog (("strings.asciiSpace", Rows.laid_strings_asciiSpace) :: [("unicode.CaseRanges", Rows.laid_unicode_CaseRanges), ("unicode/utf8.first", Rows.laid_unicode_utf8_first)]) W := laidMet.tail (laidMet.tail h')
  rw [ascii_eq] at h2
  exact Lib.tabIs_of_head (g := 0) (t := 56) (e := 5) (n := 256) (by kernel_rfl) (by kernel_rfl) Tryd.underlying56 Tryd.underlying5 (by kernel_rfl) (by kernel_rfl) h2
noncomputable def laidWorld (os : Os) : World :=
  let N := (World.settled Tryd.prog os).heap.size
  let w0 := World.holding Tryd.prog os ⟨#[.cells (Lib.whiteT.map fun (z : Nat) => Value.int .u16 (z : Int)).toArray 83, .cells #[.slice (some ⟨N, 0, none⟩) 7 7, .slice none 0 0, .int .i64 2] 80,
    .cells Lib.caseCells5 108], #[], []⟩
  let put (h : Array Obj) (g : Nat) (cs : Array Value) : Array Obj := h.modify g fun
    | .cells _ t frozen => .cells cs t frozen
    | o => o
  let h1 := put w0.heap 0 (Lib.asciiSpaceTab.map fun z => Value.int .u8 z).toArray
  let h2 := put h1 3 (Lib.firstTab.map fun z => Value.int .u8 z).toArray
  let h3 := put h2 4 ((List.range 16).flatMap fun i => [Value.int .u8 (Lib.accLo i), Value.int .u8 (Lib.accHi i)]).toArray
  let h4 := put h3 1 #[.pointer (some ⟨N + 1, 0, none⟩)]
  let h5 := put h4 2 #[.slice (some ⟨N + 2, 0, none⟩) 336 336]
  { w0 with heap := h5 }
theorem laid_met0 (os : Os) (args : Array Value) : laidMet Tryd.prog ([("unicode/utf8.acceptRanges", Lib.acceptData), ("unicode.White_Space", Lib.whiteData), ("strings.asciiSpace", Lib.tabData .u8 Lib.asciiSpaceTab), ("unicode/utf8.first", Lib.firstData)] ++ [("unicode.CaseRanges", Lib.caseData)]) ((laidWorld os).forCall (fun _ _ => 0) ⟨#[], args, []⟩).memory :=
  laidMet_with_case (ρ := lays159_ren) { lays159 with } lays159.t206 ⟨by kernel_rfl, by kernel_rfl, by kernel_rfl, by kernel_rfl, by kernel_rfl, by kernel_rfl⟩
    10 (by kernel_rfl) (by kernel_rfl) (by kernel_rfl) ((World.settled Tryd.prog default).heap.size + 2) 108 (of_decide_eq_true (by kernel_rfl)) (by kernel_rfl) (by kernel_rfl) (by kernel_rfl)
theorem laid_met (os : Os) (args : Array Value) : laidMet Tryd.prog laidL ((laidWorld os).forCall (fun _ _ => 0) ⟨#[], args, []⟩).memory := by
  have h := laidMet_swap (a := [("unicode/utf8.acceptRanges", Lib.acceptData), ("unicode.White_Space", Lib.whiteData), ("strings.asciiSpace", Lib.tabData .u8 Lib.asciiSpaceTab)]) (laid_met0 os args)
  rw [← ascii_eq, ← accept_eq, ← white_eq, ← first_eq, ← Pinned.caseRanges_eq] at h
  exact h
end Go.Proofs.YthelpljefckgkaaDoor
