/-
  When a table fits a program: a test by computing.
-/
import Derived.Test.YtfijlaopidgdpaaEngW6
namespace Go.Proofs.Eng
open Go Go.RowKit

def fieldB (P : Program) (fs : Array Field) : List Nat → Nat → Bool
  | [], _ => true
  | fo :: r, k => (match fs[k]? with
    | some f => Nat.beq f.offset fo && (match P.info? f.type with | some i => !Nat.beq i.size 0 | none => false)
    | none => false) && fieldB P fs r (k + 1)
def structB (P : Program) (e : Nat × List Nat) : Bool := match P.underlying e.1 with
  | some (.struct fs) => fieldB P fs e.2 0
  | _ => false
def sizeB (P : Program) (e : Nat × (Nat × Bool)) : Bool := match P.underlying e.1, P.info? e.1 with
  | some d, some i => Nat.beq i.size e.2.1 && (aggB d == e.2.2) && (e.2.2 || Nat.beq e.2.1 1)
  | _, _ => false
def sliceB (P : Program) (e : Nat × Nat) : Bool := match P.underlying e.1 with
  | some (.slice t) => match P.info? t with
    | some i => Nat.beq i.size e.2
    | none => false
  | _ => false
def convB (P : Program) (e : Nat × IntKind) : Bool := match P.underlying e.1 with
  | some (.int k) => ikeq k e.2
  | _ => false
def boxB (P : Program) (t : Nat) : Bool := match P.underlying t, P.info? t with
  | some d, some i => aggB d && (match i.zero with | some z => Nat.beq z.cells.size i.size | none => false)
  | _, _ => false
def allB {α : Type} (f : α → Bool) : List α → Bool
  | [] => true
  | x :: r => f x && allB f r
def tabB (P : Program) (T : Tab) : Bool := allB (structB P) T.structs && allB (sizeB P) T.sizes && allB (sliceB P) T.slices && allB (convB P) T.convs && allB (boxB P) T.boxes

theorem allB_mem {α : Type} {f : α → Bool} {l : List α} (h : allB f l = true) : ∀ x ∈ l, f x = true := by
  induction l with
  | nil => intro x hx; cases hx
  | cons y r ih =>
    simp only [allB, Bool.and_eq_true] at h
    intro x hx
    cases hx with
    | head => exact h.1
    | tail _ hx => exact ih h.2 x hx
theorem fieldB_ok {P : Program} {fs : Array Field} : ∀ (l : List Nat) (k : Nat), fieldB P fs l k = true → ∀ (j fo : Nat), l[j]? = some fo →
    ∃ (f : Field) (i : TypeInfo), fs[k + j]? = some f ∧ f.offset = fo ∧ P.info? f.type = some i ∧ i.size ≠ 0 := by
  intro l
  induction l with
  | nil => intro k _ j fo h; simp at h
  | cons e r ih =>
    intro k h j fo hj
    simp only [fieldB, Bool.and_eq_true] at h
    rcases j with _ | j
    · cases hj
      obtain ⟨h1, _⟩ := h
      split at h1
      · rename_i f hf
        simp only [Bool.and_eq_true, Nat.beq_eq] at h1
        obtain ⟨h2, h3⟩ := h1
        split at h3
        · rename_i i hi
          exact ⟨f, i, hf, h2, hi, fun e => by simp [e] at h3⟩
        · cases h3
      · cases h1
    · obtain ⟨f, i, a, b, c, d⟩ := ih (k + 1) h.2 j fo (by simpa using hj)
      exact ⟨f, i, by rw [← a]; congr 1; omega, b, c, d⟩
theorem tabB_ok {P : Program} {T : Tab} (h : tabB P T = true) : TabOK P T := by
  simp only [tabB, Bool.and_eq_true] at h
  obtain ⟨⟨⟨⟨h1, h2⟩, h3⟩, h4⟩, h5⟩ := h
  refine ⟨?_, ?_, ?_, ?_, ?_⟩
  · intro s l hm
    have := allB_mem h1 _ hm
    unfold structB at this
    split at this
    · rename_i fs hfs
      exact ⟨fs, hfs, fun k fo hk => by have := fieldB_ok l 0 this k fo hk; rwa [Nat.zero_add] at this⟩
    · cases this
  · intro t n ag hm
    have := allB_mem h2 _ hm
    unfold sizeB at this
    split at this
    · rename_i d i hd hi
      simp only [Bool.and_eq_true, Nat.beq_eq, beq_iff_eq, Bool.or_eq_true] at this
      exact ⟨d, i, hd, hi, this.1.1, this.1.2, fun hf => this.2.resolve_left (by simp [hf])⟩
    · cases this
  · intro t n hm
    have := allB_mem h3 _ hm
    unfold sliceB at this
    split at this
    · rename_i e he
      split at this
      · rename_i i hi
        exact ⟨e, i, he, hi, by simpa [Nat.beq_eq] using this⟩
      · cases this
    · cases this
  · intro t k hm
    have := allB_mem h4 _ hm
    unfold convB at this
    split at this
    · rename_i k' hk
      rw [hk, ikeq_eq this]
    · cases this
  · intro t hm
    have := allB_mem h5 _ hm
    unfold boxB at this
    split at this
    · rename_i d i hd hi
      simp only [Bool.and_eq_true] at this
      obtain ⟨h1, h2⟩ := this
      split at h2
      · rename_i z hz
        exact ⟨d, i, z, hd, h1, hi, hz, by simpa [Nat.beq_eq] using h2⟩
      · cases h2
    · cases this
end Go.Proofs.Eng
