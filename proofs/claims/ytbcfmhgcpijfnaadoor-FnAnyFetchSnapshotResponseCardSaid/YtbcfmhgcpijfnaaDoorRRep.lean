/-
  A reader in memory; what its methods are said to do.
-/
import Derived.Test.YtbcfmhgcpijfnaaDoorPR
import Derived.Test.YtbcfmhgcpijfnaaDoorEngF
set_option linter.unusedVariables false
set_option linter.unusedSimpArgs false
namespace Go.Proofs.Eng
open Go Go.RowKit

/-- What a reader has before it, in memory. -/
def SrcRep (w : World) (X : Nat → Prop) (v : Value) : Option (List UInt8) → Prop
  | none => v = .slice none 0 0
  | some l => BytesRep w X v l
def RdOK (w : World) (X : Nat → Prop) (tR rb : Nat) (s : RS) : Prop := ∃ v, w.heap[rb]? = some (.cells #[v, .bool s.bad] tR (0, 0)) ∧ SrcRep w X v s.src
/-- A method of the reader that reads a primitive: the reader's own block is turned, and no other; X: the blocks that may be turned, the reader's among them. -/
def RContract (P : Program) (tR : Nat) (f : FuncId) (p : WPrim) : Prop :=
  ∀ (w : World) (X : Nat → Prop) (rb : Nat) (s : RS), RdOK w X tR rb s → X rb → (∀ b, X b → b < w.heap.size) →
    Calls P f #[.pointer (some ⟨rb, 0, none⟩)] w fun e w' => ∃ v, e = .returned v ∧ RepV w' X (isU p) v (rprim p s).1 ∧ RdOK w' X tR rb (rprim p s).2 ∧ w.grownBy w' (some rb)
def RLContract (P : Program) (tR : Nat) (f : FuncId) (c : Bool) : Prop :=
  ∀ (w : World) (X : Nat → Prop) (rb : Nat) (s : RS), RdOK w X tR rb s → X rb → (∀ b, X b → b < w.heap.size) →
    Calls P f #[.pointer (some ⟨rb, 0, none⟩)] w fun e w' => e = .returned (.int .i32 (rlen c s).1) ∧ RdOK w' X tR rb (rlen c s).2 ∧ w.grownBy w' (some rb)
def ROkContract (P : Program) (tR : Nat) (f : FuncId) : Prop :=
  ∀ (w : World) (X : Nat → Prop) (rb : Nat) (s : RS), RdOK w X tR rb s →
    Calls P f #[.pointer (some ⟨rb, 0, none⟩)] w fun e w' => e = .returned (.bool !s.bad) ∧ w' = w
def RTagsContract (P : Program) (tR : Nat) (f : FuncId) : Prop :=
  ∀ (w : World) (X : Nat → Prop) (rb : Nat) (s : RS), RdOK w X tR rb s → X rb → (∀ b, X b → b < w.heap.size) →
    Calls P f #[.pointer (some ⟨rb, 0, none⟩)] w fun e w' => ∃ v, e = .returned (.agg #[v]) ∧ Rep w' X v (.tags (rTags s).1) ∧ RdOK w' X tR rb (rTags s).2 ∧ w.grownBy w' (some rb)
theorem keeps_by {X : Nat → Prop} {w w' : World} {rb : Nat} (h : w.grownBy w' (some rb)) (hx : X rb) : Keeps X w w' :=
  ⟨h.size, fun b hb hX => h.block b hb (by intro e; cases e; exact hX hx)⟩
theorem SrcRep.keep {X : Nat → Prop} {w w' : World} {v : Value} {s : Option (List UInt8)} (h : SrcRep w X v s) (k : Keeps X w w') : SrcRep w' X v s := by
  cases s with
  | none => exact h
  | some l => exact BytesRep.keep h k
end Go.Proofs.Eng
