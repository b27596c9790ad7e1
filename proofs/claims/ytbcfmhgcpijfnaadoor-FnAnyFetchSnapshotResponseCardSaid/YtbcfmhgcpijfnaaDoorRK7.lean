/-
  The reader's further methods: octets as numbers and truth values, long numbers, floating-point numbers.
-/
import Derived.Test.YtbcfmhgcpijfnaaDoorRK3
import Derived.Laws.Externs
set_option linter.unusedVariables false
set_option linter.unusedSimpArgs false
namespace Go.Proofs.Eng
open Go Go.RowKit
attribute [local semireducible] wk wkD
/-- A call of a function that the model answers itself. -/
theorem wk_extern {P : Program} {Q : Exit → Act → World → Prop} {nT : Nat} {σ : Sv} {k : List TD} {w : World} {all : Array Oper} {l : List Oper} {ty : TypeId} {ps : String} {af : Array Edge} {d : Nat} {f : FuncId} {args : List Operand} {ts : Array TypeId} {vs : List Value} {v : Value}
    (hrun : (callFunc f vs.toArray).run P w = .ok (.value v) w) (hv : args.map (evs σ) = vs.map some) (hd : Nat.blt d nT = true) (h : wk P Q nT ((d, v) :: σ) (.ops all l :: k) w) :
    wk P Q nT σ (.ops all (⟨some d, .call ⟨.value (.func f), args.toArray, ts⟩, ty, ps, af, none⟩ :: l) :: k) w := by
  refine wk_val (fun a ha => ?_) hd h
  have hm : args.toArray.map a.eval = vs.toArray := by
    rw [List.map_toArray]
    congr 1
    have key : ∀ (args : List Operand) (vs : List Value), args.map (evs σ) = vs.map some → args.map a.eval = vs := by
      intro args
      induction args with
      | nil => intro vs h; cases vs with
        | nil => rfl
        | cons _ _ => simp at h
      | cons x r ih => intro vs h; cases vs with
        | nil => simp at h
        | cons v vs =>
          simp only [List.map_cons, List.cons.injEq] at h
          rw [List.map_cons, ha.ev h.1, ih vs h.2]
    exact key args vs hv
  have hf : a.eval (.func f) = .func (.func f) #[] #[] := rfl
  unfold execOp
  simp only [resolve, hf, Deferred.ofValue, pure_bind, invoke, Array.append_empty, Array.empty_append]
  rw [hm]
  exact hrun
end Go.Proofs.Eng
namespace Go.Proofs.YtbcfmhgcpijfnaaDoor
open Go Go.RowKit Go.Proofs.Eng
set_option maxRecDepth 20000
set_option maxHeartbeats 4000000

theorem rd_Int64 : RContract Tryd.prog 75 44 .i64 := by
  rintro w X rb s hr hX hlt
  refine calls_wk (args := [.pointer (some ⟨rb, 0, none⟩)]) Tryd.func44 rfl rfl ?_
  refine wk_seq ?_
  refine wk_reg (id := 0) ?_
  refine wk_assign rfl rfl ?_
  refine wk_nil ?_
  refine wk_seq ?_
  refine wk_reg (id := 1) ?_
  refine wk_move rfl rfl ?_
  refine wk_call Tryd.call62 (vs := [.pointer (some ⟨rb, 0, none⟩)]) rfl rfl ((rd_readUint64 w X rb s hr hX).mono ?_)
  rintro e w1 ⟨rfl, hr1, hg1⟩
  refine ⟨_, rfl, ?_⟩
  refine wk_conv rfl Tryd.underlying90 Tryd.underlying2 rfl ?_
  refine wk_assign rfl rfl ?_
  refine wk_nil ?_
  have e : rprim .i64 s = ([.int .i64 (IntKind.i64.wrap ((rNat 8 s).1 : Nat))], (rNat 8 s).2) := rfl
  rw [e]
  exact wk_ret r0 rfl rfl ⟨_, rfl, ⟨_, rfl, .int _ _⟩, hr1, hg1⟩
end Go.Proofs.YtbcfmhgcpijfnaaDoor
