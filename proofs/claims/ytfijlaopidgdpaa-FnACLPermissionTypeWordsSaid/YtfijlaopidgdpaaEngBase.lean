/-
  The base of the checked executor: frames, lists of pieces of code, one operation at a time.
-/
import Derived.Test.YtfijlaopidgdpaaEngSem
namespace Go.Proofs.Eng
open Go

/-! ## frames -/
theorem put_size (a : Act) (d : Option Nat) (v : Value) : (a.put d v).tmps.size = a.tmps.size := by
  cases d <;> simp [Act.put]
theorem put_defers (a : Act) (d : Option Nat) (v : Value) : (a.put d v).defers = a.defers := by
  cases d <;> rfl
theorem eval_put_same (a : Act) (d : Nat) (v : Value) (h : d < a.tmps.size) : (a.put (some d) v).eval (.tmp d) = v := by
  simp [Act.put, Act.eval, Array.getD, h]
theorem eval_put_other (a : Act) (d t : Nat) (v : Value) (h : t ≠ d) : (a.put (some d) v).eval (.tmp t) = a.eval (.tmp t) := by
  simp only [Act.put, Act.eval, Array.getD_eq_getD_getElem?, Array.getElem?_setIfInBounds]
  rw [if_neg (fun e => h e.symm)]
theorem eval_const (a : Act) (v : Value) : a.eval (.const v) = v := rfl

/-! ## pieces of code -/
inductive TD where
  | ops (all : Array Oper) (l : List Oper)
  | code (c : Code)

def wpT (P : Program) (Q : Exit → Act → World → Prop) : List TD → Act → World → Prop
  | [], a, w => Q .normal a w
  | .ops all l :: k, a, w => wpList P all (Exit.then (wpT P Q k) Q) l a w
  | .code c :: k, a, w => c.wp P (Exit.then (wpT P Q k) Q) a w

section
variable {P : Program} {Q : Exit → Act → World → Prop} {k : List TD} {a : Act} {w : World}

theorem then_then (K : Act → World → Prop) (K' : Act → World → Prop) : Exit.then K (Exit.then K' Q) = Exit.then K Q := by
  funext e a w; cases e <;> rfl
theorem wpT_ops_nil {all : Array Oper} (h : wpT P Q k a w) : wpT P Q (.ops all [] :: k) a w := h
theorem wpT_seq {x y : Code} (h : wpT P Q (.code x :: .code y :: k) a w) : wpT P Q (.code (.seq x y) :: k) a w := by
  refine wp_seq ?_
  rw [then_then]
  exact h
theorem wpT_skip (h : wpT P Q k a w) : wpT P Q (.code .skip :: k) a w := wp_skip h
theorem wpT_region {id : Nat} {ops : Array Oper} (h : wpT P Q (.ops ops ops.toList :: k) a w) : wpT P Q (.code (.region id ops false) :: k) a w :=
  wp_region_list h
theorem wpT_cond {c : Operand} {x y : Code} {b : Bool} (hc : a.eval c = .bool b) (h : wpT P Q (.code (if b then x else y) :: k) a w) :
    wpT P Q (.code (.cond c x y) :: k) a w := wp_cond hc h
theorem wpT_ret (h : Q .ret a w) : wpT P Q (.code .ret :: k) a w := wp_ret h

theorem wpT_op {all : Array Oper} {o : Oper} {l : List Oper} (hg : Region.wanted o (yielded all a.tmps) = true)
    (h : o.wp P a w (fun a w => wpT P Q (.ops all l :: k) a w) (Exit.then (wpT P Q k) Q)) : wpT P Q (.ops all (o :: l) :: k) a w := by
  show wpList P all _ (o :: l) a w
  unfold wpList
  rw [if_pos hg]
  exact .inl h
theorem wpT_op_skip {all : Array Oper} {o : Oper} {l : List Oper} (hg : Region.wanted o (yielded all a.tmps) = false)
    (h : wpT P Q (.ops all l :: k) (a.put o.dst undef) w) : wpT P Q (.ops all (o :: l) :: k) a w := by
  show wpList P all _ (o :: l) a w
  unfold wpList
  rw [if_neg (by simp [hg])]
  exact h
theorem wpT_value {all : Array Oper} {o : Oper} {l : List Oper} {v : Value} {w' : World} (hg : Region.wanted o (yielded all a.tmps) = true)
    (hr : (execOp a.eval o).run P w = .ok (.value v) w') (h : wpT P Q (.ops all l :: k) (a.put o.dst v) w') : wpT P Q (.ops all (o :: l) :: k) a w :=
  wpT_op hg (by unfold Oper.wp; rw [hr]; exact h)
theorem wpT_unit {all : Array Oper} {o : Oper} {l : List Oper} {w' : World} (hg : Region.wanted o (yielded all a.tmps) = true)
    (hr : (execOp a.eval o).run P w = .ok .skip w') (h : wpT P Q (.ops all l :: k) (a.put o.dst undef) w') : wpT P Q (.ops all (o :: l) :: k) a w :=
  wpT_op hg (by unfold Oper.wp; rw [hr]; exact h)
theorem wpT_enter {all : Array Oper} {o : Oper} {l : List Oper} {f : FuncId} {args : Array Value} {w' : World} (hg : Region.wanted o (yielded all a.tmps) = true)
    (hr : (execOp a.eval o).run P w = .ok (.enter f args) w')
    (h : Calls P f args w' fun e w'' => ∃ v, e = .returned v ∧ wpT P Q (.ops all l :: k) (a.put o.dst v) w'') : wpT P Q (.ops all (o :: l) :: k) a w :=
  wpT_op hg (by
    unfold Oper.wp; rw [hr]
    refine h.mono ?_
    rintro e w'' ⟨v, rfl, h⟩
    exact h)
theorem wpT_ops_mono {all : Array Oper} {l : List Oper} (h : wpList P all (Exit.then (wpT P Q k) Q) l a w) : wpT P Q (.ops all l :: k) a w := h
end

/-! ## what operations come to -/
def Callable (P : Program) (f : FuncId) : Prop := ∀ (args : Array Value) (w : World), (callFunc f args).run P w = .ok (.enter f args) w

theorem run_callf {P : Program} {f : FuncId} (hf : Callable P f) (ρ : Operand → Value) (hρ : ρ (.func f) = .func (.func f) #[] #[]) (o : Oper) (args : Array Operand) (ts : Array TypeId)
    (ho : o.op = .call { callee := .value (.func f), args := args, argTypes := ts }) (w : World) :
    (execOp ρ o).run P w = .ok (.enter f (args.map ρ)) w := by
  unfold execOp
  simp only [ho, resolve, hρ, Deferred.ofValue, pure_bind, invoke, Array.append_empty, Array.empty_append]
  exact hf _ w

section
variable {P : Program} (ρ : Operand → Value) (w : World)
theorem run_move {o : Oper} {x : Operand} (ho : o.op = .move x) : (execOp ρ o).run P w = .ok (.value (ρ x)) w := by simp [execOp, ho]
theorem run_assign {o : Oper} {x : Operand} (ho : o.op = .assign x) : (execOp ρ o).run P w = .ok (.value (ρ x)) w := by simp [execOp, ho]
theorem run_pick {o : Oper} {c x y : Operand} {b : Bool} (ho : o.op = .pick c x y) (hc : ρ c = .bool b) : (execOp ρ o).run P w = .ok (.value (if b then ρ x else ρ y)) w := by
  simp [execOp, ho, hc, asBool]
theorem run_not {o : Oper} {x : Operand} {t : TypeId} {b : Bool} (ho : o.op = .unOp .not t x) (hc : ρ x = .bool b) : (execOp ρ o).run P w = .ok (.value (.bool !b)) w := by
  simp [execOp, ho, hc, Op.unary]
theorem run_nilCheck {o : Oper} {x : Operand} {ad : Addr} (ho : o.op = .nilCheck x) (hc : ρ x = .pointer (some ad)) : (execOp ρ o).run P w = .ok (.value (.pointer (some ad))) w := by
  simp [execOp, ho, hc]
theorem run_fieldAddr {o : Oper} {x : Operand} {s : TypeId} {f : Nat} {ad : Addr} {fs : Array Field} {fd : Field} {i : TypeInfo} (ho : o.op = .fieldAddr s x f) (hc : ρ x = .pointer (some ad))
    (hs : P.underlying s = some (.struct fs)) (hf : fs[f]? = some fd) (hi : P.info? fd.type = some i) (hz : i.size ≠ 0) :
    (execOp ρ o).run P w = .ok (.value (.pointer (some (ad.add fd.offset)))) w := by
  simp [execOp, ho, hc, Instr.fieldAt, run_underlying hs, hf, Instr.sureAddr, fieldPlace, sizeOf, typeInfo, hi, hz]
def aggB : TypeDesc → Bool
  | .struct _ => true
  | .array _ _ => true
  | _ => false
theorem run_load1 {o : Oper} {x : Operand} {t : TypeId} {ad : Addr} {v : Value} {d : TypeDesc} (ho : o.op = .load t x) (hc : ρ x = .pointer (some ad)) (hs : P.underlying t = some d)
    (hd : aggB d = false) (hv : w.cell? ad = some v) : (execOp ρ o).run P w = .ok (.value v) w := by
  have hag : (isAgg t).run P w = .ok false w := by
    simp only [isAgg, Sem.run_bind, run_underlying hs, Result.andThen_ok]
    cases d <;> simp_all [aggB]
  simp [execOp, ho, hc, Instr.loadAt, Instr.sureAddr, loadVar, hag, hv]
end
end Go.Proofs.Eng
