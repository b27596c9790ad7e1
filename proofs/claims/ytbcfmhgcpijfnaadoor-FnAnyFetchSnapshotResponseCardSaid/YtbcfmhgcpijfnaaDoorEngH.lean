/-
  Slices of bytes, cut ahead and behind; the shift to the left.
-/
import Derived.Test.YtbcfmhgcpijfnaaDoorRRep
set_option linter.unusedVariables false
set_option linter.unusedSimpArgs false
namespace Go.Proofs.Eng
open Go Go.RowKit

section
variable {P : Program} {ρ : Operand → Value} {w : World} {o : Oper} {x y z : Operand} {t t' : TypeId}
/-- x[m:] of bytes. -/
theorem run_sliceL {A : Option Addr} {n c m : Nat} {k : IntKind} {e : TypeId} (hB : ByteT P t e) (ho : o.op = .slice t x (some y) none none) (hx : ρ x = .slice A n c) (hy : ρ y = .int k (m : Int)) (hm : m ≤ n) :
    (execOp ρ o).run P w = .ok (.value (.slice (if c = m then A else A.map (·.add m)) (n - m) (c - m))) w := by
  obtain ⟨i, hi, _, hs, _⟩ := hB.info
  simp [execOp, ho, hx, hy, Instr.sliceAt, Instr.slice, run_underlying hB.sl, Instr.sliceBounds, Instr.sliceBound, asIntOf, hm, sizeOf, typeInfo, hi, hs]
/-- x[:m:m] of bytes. -/
theorem run_sliceHM {A : Option Addr} {n c m : Nat} {k k' : IntKind} {e : TypeId} (hB : ByteT P t e) (ho : o.op = .slice t x none (some y) (some z)) (hx : ρ x = .slice A n c) (hy : ρ y = .int k (m : Int)) (hz : ρ z = .int k' (m : Int)) (hm : m ≤ c)
    (hA : ∀ a, A = some a → ∃ b o, a = ⟨b, o, none⟩) : (execOp ρ o).run P w = .ok (.value (.slice A m m)) w := by
  obtain ⟨i, hi, _, hs, _⟩ := hB.info
  have h2 : A.map (fun a => a.add 0) = A := by
    cases A with
    | none => rfl
    | some a => obtain ⟨b, o, rfl⟩ := hA a rfl; simp [add_addr]
  simp [execOp, ho, hx, hy, hz, Instr.sliceAt, Instr.slice, run_underlying hB.sl, Instr.sliceBounds, Instr.sliceBound, asIntOf, hm, sizeOf, typeInfo, hi, hs, h2]
end
theorem BytesRep.drop {w : World} {X : Nat → Prop} {A : Option Addr} {n c m : Nat} {l : List UInt8} (h : BytesRep w X (.slice A n c) l) (hm : m ≤ n) : BytesRep w X (.slice (if c = m then A else A.map (·.add m)) (n - m) (c - m)) (l.drop m) := by
  obtain ⟨b, o, n', c', e, hx, hb, hl, hc, hcell⟩ := h
  simp only [Value.slice.injEq] at e
  obtain ⟨rfl, rfl, rfl⟩ := e
  by_cases hcm : c = m
  · subst hcm
    refine ⟨b, o, n - c, c - c, by simp, hx, hb, by simp; omega, by omega, fun i y hi => ?_⟩
    rw [List.drop_of_length_le (by omega)] at hi
    simp at hi
  · refine ⟨b, o + m, n - m, c - m, by simp [hcm, add_addr], hx, hb, by simp; omega, by omega, fun i y hi => ?_⟩
    rw [List.getElem?_drop] at hi
    have := hcell (m + i) y hi
    rwa [← Nat.add_assoc] at this
theorem BytesRep.take {w : World} {X : Nat → Prop} {A : Option Addr} {n c m : Nat} {l : List UInt8} (h : BytesRep w X (.slice A n c) l) (hm : m ≤ n) : BytesRep w X (.slice A m m) (l.take m) := by
  obtain ⟨b, o, n', c', e, hx, hb, hl, hc, hcell⟩ := h
  simp only [Value.slice.injEq] at e
  obtain ⟨rfl, rfl, rfl⟩ := e
  refine ⟨b, o, m, m, rfl, hx, hb, by simp; omega, Nat.le_refl _, fun i y hi => ?_⟩
  rw [List.getElem?_take] at hi
  split at hi
  · exact hcell i y hi
  · cases hi
section
variable {P : Program} {Q : Exit → Act → World → Prop} {nT : Nat} {σ : Sv} {k : List TD} {w : World} {all : Array Oper} {l : List Oper} {ty : TypeId} {ps : String} {af : Array Edge} {d : Nat} {x y z : Operand} {t t' : TypeId}
theorem wk_sliceL {A : Option Addr} {n c m : Nat} {kk : IntKind} {e : TypeId} (hB : ByteT P t e) (hx : evs σ x = some (.slice A n c)) (hy : evs σ y = some (.int kk (m : Int))) (hm : m ≤ n) (hd : Nat.blt d nT = true)
    (h : wk P Q nT ((d, .slice (if c = m then A else A.map (·.add m)) (n - m) (c - m)) :: σ) (.ops all l :: k) w) : wk P Q nT σ (.ops all (⟨some d, .slice t x (some y) none none, ty, ps, af, none⟩ :: l) :: k) w :=
  wk_val (fun _ ha => run_sliceL hB rfl (ha.ev hx) (ha.ev hy) hm) hd h
theorem wk_sliceHM {A : Option Addr} {n c m : Nat} {kk k' : IntKind} {e : TypeId} (hB : ByteT P t e) (hx : evs σ x = some (.slice A n c)) (hy : evs σ y = some (.int kk (m : Int))) (hz : evs σ z = some (.int k' (m : Int))) (hm : m ≤ c)
    (hA : ∀ a, A = some a → ∃ b o, a = ⟨b, o, none⟩) (hd : Nat.blt d nT = true) (h : wk P Q nT ((d, .slice A m m) :: σ) (.ops all l :: k) w) : wk P Q nT σ (.ops all (⟨some d, .slice t x none (some y) (some z), ty, ps, af, none⟩ :: l) :: k) w :=
  wk_val (fun _ ha => run_sliceHM hB rfl (ha.ev hx) (ha.ev hy) (ha.ev hz) hm hA) hd h
end
end Go.Proofs.Eng
