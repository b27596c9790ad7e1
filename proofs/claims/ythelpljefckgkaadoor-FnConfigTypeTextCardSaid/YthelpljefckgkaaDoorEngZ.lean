/-
  Strings: compared, cut.
-/
import Derived.Test.YthelpljefckgkaaDoorEngG
import Derived.Laws.Strings2
set_option linter.unusedVariables false
set_option linter.unusedSimpArgs false
namespace Go.Proofs.Eng
open Go Go.RowKit
attribute [local semireducible] wk wkD
section
variable {P : Program} {Q : Exit → Act → World → Prop} {nT : Nat} {σ : Sv} {k : List TD} {w : World} {all : Array Oper} {l : List Oper} {ty : TypeId} {ps : String} {af : Array Edge} {d : Nat} {x y z : Operand} {t t' : TypeId} {ρ : Operand → Value} {o : Oper}
theorem run_streq {s u : ByteArray} (ho : o.op = .binOp .eql t x y t') (hx : ρ x = .string s) (hy : ρ y = .string u) : (execOp ρ o).run P w = .ok (.value (.bool (s.toList == u.toList))) w := by
  simp [execOp, ho, hx, hy, eqGuard, binOp, Op.stringOp]
theorem run_strne {s u : ByteArray} (ho : o.op = .binOp .neq t x y t') (hx : ρ x = .string s) (hy : ρ y = .string u) : (execOp ρ o).run P w = .ok (.value (.bool (!(s.toList == u.toList)))) w := by
  simp [execOp, ho, hx, hy, eqGuard, binOp, Op.stringOp]
theorem run_strcut {s : ByteArray} {kk kk' : IntKind} {i j : Nat} (ho : o.op = .slice t x (some y) (some z) none) (ht : P.underlying t = some .string) (hx : ρ x = .string s) (hy : ρ y = .int kk (i : Int)) (hz : ρ z = .int kk' (j : Int)) (hij : i ≤ j) (hj : j ≤ s.size) : (execOp ρ o).run P w = .ok (.value (.string (s.extract i j))) w := by
  have := run_slice_string (P := P) w t s kk kk' (i : Int) (j : Int) ht (by omega) (by omega) (by omega)
  simp [execOp, ho, hx, hy, hz, Instr.sliceAt, run_underlying ht, this]
theorem wk_streq {s u : ByteArray} {b : Bool} (hx : evs σ x = some (.string s)) (hy : evs σ y = some (.string u)) (hb : (s.toList == u.toList) = b) (hd : Nat.blt d nT = true) (h : wk P Q nT ((d, .bool b) :: σ) (.ops all l :: k) w) : wk P Q nT σ (.ops all (⟨some d, .binOp .eql t x y t', ty, ps, af, none⟩ :: l) :: k) w :=
  wk_val (fun _ ha => by rw [run_streq rfl (ha.ev hx) (ha.ev hy), hb]) hd h
theorem wk_strne {s u : ByteArray} {b : Bool} (hx : evs σ x = some (.string s)) (hy : evs σ y = some (.string u)) (hb : (s.toList == u.toList) = b) (hd : Nat.blt d nT = true) (h : wk P Q nT ((d, .bool (!b)) :: σ) (.ops all l :: k) w) : wk P Q nT σ (.ops all (⟨some d, .binOp .neq t x y t', ty, ps, af, none⟩ :: l) :: k) w :=
  wk_val (fun _ ha => by rw [run_strne rfl (ha.ev hx) (ha.ev hy), hb]) hd h
theorem wk_strcut {s : ByteArray} {kk kk' : IntKind} {i j : Nat} (hx : evs σ x = some (.string s)) (ht : P.underlying t = some .string) (hy : evs σ y = some (.int kk (i : Int))) (hz : evs σ z = some (.int kk' (j : Int))) (hij : i ≤ j) (hj : j ≤ s.size) (hd : Nat.blt d nT = true)
    (h : wk P Q nT ((d, .string (s.extract i j)) :: σ) (.ops all l :: k) w) : wk P Q nT σ (.ops all (⟨some d, .slice t x (some y) (some z) none, ty, ps, af, none⟩ :: l) :: k) w :=
  wk_val (fun _ ha => run_strcut rfl ht (ha.ev hx) (ha.ev hy) (ha.ev hz) hij hj) hd h
end
end Go.Proofs.Eng
