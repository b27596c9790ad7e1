/-
  Walking a piece of code that stands within a function: the slots that it doesn't write keep what they held.
-/
import Derived.Test.YtbcfmhgcpijfnaaDoorEngG
import Derived.Test.YtbcfmhgcpijfnaaDoorEngI
set_option linter.unusedVariables false
set_option linter.unusedSimpArgs false
namespace Go.Proofs.Eng
open Go Go.RowKit
attribute [local semireducible] wk wkD

theorem look_some_of_mem {α : Type} {l : List (Nat × α)} {t : Nat} {x : α} (h : (t, x) ∈ l) : ∃ y, look l t = some y := by
  induction l with
  | nil => cases h
  | cons p r ih =>
    obtain ⟨m, y⟩ := p
    simp only [look]
    split
    · exact ⟨_, rfl⟩
    · rename_i hb
      rcases List.mem_cons.1 h with h | h
      · cases h
        simp at hb
      · exact ih h
theorem look_append {α : Type} {l m : List (Nat × α)} {t : Nat} {x : α} (h : look (l ++ m) t = some x) : look l t = some x ∨ look m t = some x := by
  induction l with
  | nil => exact .inr h
  | cons p r ih =>
    obtain ⟨n, y⟩ := p
    simp only [List.cons_append, look] at h ⊢
    split at h
    · rename_i hb
      rw [if_pos hb]
      exact .inl h
    · rename_i hb
      rw [if_neg hb]
      exact ih h
/-- The slots that aren't in W, with what they hold. -/
def tauOf (W : List Nat) (nT : Nat) (a : Act) : Sv := (List.range nT).filterMap fun t => if has W t then none else some (t, a.eval (.tmp t))
theorem tau_inv {W : List Nat} {nT : Nat} {a : Act} {t : Nat} {v : Value} (h : look (tauOf W nT a) t = some v) : has W t = false ∧ v = a.eval (.tmp t) := by
  have hm := look_mem h
  obtain ⟨s, _, hs⟩ := List.mem_filterMap.1 hm
  split at hs
  · cases hs
  · rename_i hw
    cases hs
    exact ⟨by simpa using hw, rfl⟩
theorem tau_get {W : List Nat} {nT : Nat} {a : Act} {t : Nat} (ht : t < nT) (hw : has W t = false) : look (tauOf W nT a) t = some (a.eval (.tmp t)) := by
  have hm : (t, a.eval (.tmp t)) ∈ tauOf W nT a := List.mem_filterMap.2 ⟨t, List.mem_range.2 ht, by rw [if_neg (by simp [hw])]⟩
  obtain ⟨y, hy⟩ := look_some_of_mem hm
  rw [hy, (tau_inv hy).2]
/-- What is known says of the slots out of W what τ says. -/
def Fr (W : List Nat) (τ σ : Sv) : Prop := ∀ t, has W t = false → look σ t = look τ t
theorem Fr.base {W : List Nat} {τ : Sv} : Fr W τ τ := fun _ _ => rfl
theorem Fr.step {W : List Nat} {τ σ : Sv} {d : Nat} {v : Value} (hd : has W d = true) (h : Fr W τ σ) : Fr W τ ((d, v) :: σ) := by
  intro t ht
  simp only [look]
  split
  · rename_i hb
    have := Nat.eq_of_beq_eq_true hb
    subst this
    rw [hd] at ht
    cases ht
  · exact h t ht
theorem Fr.app {W : List Nat} {τ : Sv} : ∀ {pre : Sv}, allB (fun p => has W p.1) pre = true → Fr W τ (pre ++ τ) := by
  intro pre
  induction pre with
  | nil => intro _; exact .base
  | cons p r ih =>
    intro h
    simp only [allB, Bool.and_eq_true] at h
    exact .step h.1 (ih h.2)
theorem hook_start {W : List Nat} {nT : Nat} {a : Act} (hn : a.tmps.size = nT) (hd : a.defers = []) {pre : Sv} (hp : ∀ p ∈ pre, a.eval (.tmp p.1) = p.2) : Knows nT (pre ++ tauOf W nT a) a := by
  refine ⟨hn, hd, fun t v h => ?_⟩
  rcases look_append h with h | h
  · exact hp _ (look_mem h)
  · exact (tau_inv h).2.symm
theorem hook_same {W : List Nat} {nT : Nat} {a a' : Act} {σ : Sv} (hk : Knows nT σ a') (hn : a.tmps.size = nT) (hF : Fr W (tauOf W nT a) σ) : ∀ t, has W t = false → a'.eval (.tmp t) = a.eval (.tmp t) := by
  intro t ht
  by_cases hlt : t < nT
  · exact hk.2.2 t _ ((hF t ht).trans (tau_get hlt ht))
  · have h1 : a'.tmps[t]? = none := Array.getElem?_eq_none (by rw [hk.1]; omega)
    have h2 : a.tmps[t]? = none := Array.getElem?_eq_none (by rw [hn]; omega)
    simp only [Act.eval, Array.getD_eq_getD_getElem?, h1, h2]

/-- What a loop's round may know: the slots 'pre', and those that are not written. -/
theorem pre_sub {W : List Nat} {τ pre σ : Sv} (h1 : ∀ t v, look τ t = some v → has W t = false) (hp : pre.map (fun p => look σ p.1) = pre.map (fun p => some p.2)) (hF : Fr W τ σ) : ∀ t v, look (pre ++ τ) t = some v → look σ t = some v := by
  intro t v h
  rcases look_append h with h | h
  · exact known_sub hp t v h
  · rw [hF t (h1 t v h)]
    exact h
/-- What is left to do behind a piece of code; it doesn't end in a panic. -/
def Qh (P : Program) (Q : Exit → Act → World → Prop) (k : List TD) : Exit → Act → World → Prop
  | .panic _, _, _ => False
  | e, a, w => Exit.then (wpT P Q k) Q e a w
theorem pqh {P : Program} {Q : Exit → Act → World → Prop} {k : List TD} : PQ (Qh P Q k) := fun _ _ _ _ _ h => h.elim
theorem hook_wk {P : Program} {Q : Exit → Act → World → Prop} {k : List TD} {nT : Nat} {σ : Sv} {c : Code} {a : Act} {w : World} (h : wk P (Qh P Q k) nT σ [.code c] w) (ha : Knows nT σ a) : wpT P Q (.code c :: k) a w := by
  have h1 : c.wp P (Qh P Q k) a w := wpT_one (h a ha)
  exact wp_mono h1 (fun e a w q => by cases e <;> first | exact q | exact q.elim)
theorem wk_raw {P : Program} {Q : Exit → Act → World → Prop} {nT : Nat} {σ : Sv} {td : List TD} {w : World} (h : ∀ a, Knows nT σ a → wpT P Q td a w) : wk P Q nT σ td w := h
/-- A piece of a function's code, by its place. -/
def pickC : List Nat → Code → Code
  | [], c => c
  | 0 :: r, .seq a _ => pickC r a
  | _ :: r, .seq _ b => pickC r b
  | 0 :: r, .cond _ a _ => pickC r a
  | _ :: r, .cond _ _ b => pickC r b
  | _ :: r, .block _ a => pickC r a
  | _ :: r, .loop a => pickC r a
  | _ :: r, .scope a => pickC r a
  | _, c => c
theorem lset_same {l : List Value} {o : Nat} {v : Value} (h : l[o]? = some v) : l.set o v = l := by
  apply List.ext_getElem?
  intro i
  by_cases e : i = o
  · subst e
    rw [List.getElem?_set_self (List.getElem?_eq_some_iff.1 h).1, h]
  · rw [List.getElem?_set_ne (Ne.symm e)]
end Go.Proofs.Eng
