/-
  Words for the laws over the reference's trees: a row cut short; drawn regions' rests, cuts and parts; a block that is written.
-/
import Derived.Test.YthejiimocbfagabGreatDoorTreeOpen
import Derived.Test.YthejiimocbfagabGreatDoorSpecW
import Derived.Test.YthejiimocbfagabGreatDoorSpec8
import Derived.Test.YthejiimocbfagabGreatDoorEngH
import Derived.Test.YthejiimocbfagabGreatDoorEngI
set_option linter.unusedVariables false
set_option linter.unusedSimpArgs false
namespace Go.Proofs.Eng
open Go Go.RowKit
attribute [local semireducible] wk wkD

section
variable {P : Program} {Q : Exit → Act → World → Prop} {nT : Nat} {σ : Sv} {k : List TD} {w : World} {ty : TypeId} {ps : String} {af : Array Edge} {d : Nat} {x y z : Operand} {t t' : TypeId}
variable {S : World → Prop} {all : List Oper} {i : Nat} {ord : List (Nat × Bool)} {ol : List Oper} {g : Option (Nat × Bool)}
theorem wd_rem {kk : IntKind} {n m : Int} (hg : guardIs σ all g = some true) (hx : evs σ x = some (.int kk n)) (hy : evs σ y = some (.int kk m)) (hm : m ≠ 0) (hd : Nat.blt d nT = true) (h : wkD P Q nT all S ((d, .int kk (n.tmod m)) :: σ) k ord ol w) :
    wkD P Q nT all S σ k ((i, true) :: ord) (⟨some d, .binOp .rem t x y t', ty, ps, af, g⟩ :: ol) w := wd_val hg (fun _ ha _ _ => run_rem rfl (ha.ev hx) (ha.ev hy) hm) hd h
theorem wd_sliceH {A : Option Addr} {n c m : Nat} {kk : IntKind} {e : TypeId} {ti : TypeInfo} (hg : guardIs σ all g = some true) (hx : evs σ x = some (.slice A n c)) (hy : evs σ y = some (.int kk (m : Int))) (ht : P.underlying t = some (.slice e)) (hi : P.info? e = some ti) (hm : m ≤ c)
    (hd : Nat.blt d nT = true) (h : wkD P Q nT all S ((d, .slice A m c) :: σ) k ord ol w) : wkD P Q nT all S σ k ((i, true) :: ord) (⟨some d, .slice t x none (some y) none, ty, ps, af, g⟩ :: ol) w :=
  wd_val hg (fun _ ha _ _ => run_sliceH rfl ht hi (ha.ev hx) (ha.ev hy) hm) hd h
theorem wd_extract {vs : Array Value} {j : Nat} {v : Value} (hg : guardIs σ all g = some true) (hx : evs σ x = some (.tuple vs)) (hv : vs[j]? = some v) (hd : Nat.blt d nT = true) (h : wkD P Q nT all S ((d, v) :: σ) k ord ol w) :
    wkD P Q nT all S σ k ((i, true) :: ord) (⟨some d, .extract x j, ty, ps, af, g⟩ :: ol) w := wd_val hg (fun _ ha _ _ => run_extract rfl (ha.ev hx) hv) hd h
end
theorem BytesRep0.cut {w : World} {X : Nat → Prop} {A : Option Addr} {n c m : Nat} {l : List UInt8} (h : BytesRep0 w X (.slice A n c) l) (hm : m < l.length) : BytesRep0 w X (.slice A m c) (l.take m) := by
  rcases h with ⟨_, rfl⟩ | ⟨b, o, n', c', e, hx, hb, hl, hc, hcell⟩
  · simp at hm
  · simp only [Value.slice.injEq] at e
    obtain ⟨rfl, rfl, rfl⟩ := e
    refine .inr ⟨b, o, m, c, rfl, hx, hb, by simp; omega, by omega, fun i y hi => ?_⟩
    rw [List.getElem?_take] at hi
    split at hi
    · exact hcell i y hi
    · cases hi
theorem BytesRep0.le {w : World} {X : Nat → Prop} {A : Option Addr} {n c : Nat} {l : List UInt8} (h : BytesRep0 w X (.slice A n c) l) : l.length ≤ c := by
  rcases h with ⟨_, rfl⟩ | ⟨b, o, n', c', e, hx, hb, hl, hc, hcell⟩
  · simp
  · simp only [Value.slice.injEq] at e
    obtain ⟨rfl, rfl, rfl⟩ := e
    omega
theorem rem_nat (a : Int) (n : Nat) (h0 : 0 ≤ a) (hn : n ≠ 0) : ∃ m : Nat, a.tmod (n : Int) = (m : Int) ∧ m < n := by
  rw [Int.tmod_eq_emod_of_nonneg h0]
  have h1 := Int.emod_nonneg a (show (n : Int) ≠ 0 by omega)
  have h2 := Int.emod_lt_of_pos a (show (0 : Int) < (n : Int) by omega)
  exact ⟨(a % (n : Int)).toNat, by omega, by omega⟩
theorem mul_le_lim {a n k : Nat} (h : a ≤ k * n) (hn : n ≤ 1048576) (hk : k ≤ 1900) : a < 2000000000 := by
  have := Nat.mul_le_mul hk hn
  omega
end Go.Proofs.Eng
namespace Go.Proofs.YthejiimocbfagabGreatDoor
open Go Go.RowKit Go.Proofs.Eng
set_option maxRecDepth 20000
theorem below_setRow {B : Nat} {a w : World} (h : Below B a w) {b : Nat} (hb : B ≤ b) (cs : Array Value) : Below B a (w.setRow b cs) :=
  h.trans ⟨rfl, rfl, rfl, by simp [World.setRow], fun k hk => setRow_other w b k cs (by omega)⟩
theorem keeps_setRow {X : Nat → Prop} (w : World) {b : Nat} (hb : X b) (cs : Array Value) : Keeps X w (w.setRow b cs) :=
  ⟨by simp [World.setRow], fun k _ hk => setRow_other w b k cs (by rintro rfl; exact hk hb)⟩
theorem g32_nil : G32 [] := fun t h => by cases h
end Go.Proofs.YthejiimocbfagabGreatDoor
