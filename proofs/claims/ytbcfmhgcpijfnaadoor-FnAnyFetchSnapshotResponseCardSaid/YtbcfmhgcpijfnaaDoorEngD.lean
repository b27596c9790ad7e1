/-
  Walking a region whose order is drawn; guards; slices that lie in given blocks.
-/
import Derived.Test.YtbcfmhgcpijfnaaDoorEngSpec
import Derived.OrdersHeld
set_option linter.unusedVariables false
set_option linter.unusedSimpArgs false
namespace Go.Proofs.Eng
open Go Go.RowKit
attribute [local semireducible] wk

/-! ## guards -/
def guardIs (σ : Sv) (all : List Oper) (g : Option (Nat × Bool)) : Option Bool :=
  match g with
  | none => some true
  | some (s, b) => match all[s]? with
    | some o => match o.dst with
      | some d => match look σ d with
        | some (.bool c) => some (c == b)
        | some (.tuple _) => some false
        | _ => none
      | none => none
    | none => none
theorem guardIs_ok {nT : Nat} {σ : Sv} {all : List Oper} {o : Oper} {c : Bool} {a : Act} (ha : Knows nT σ a) (h : guardIs σ all o.guard = some c) : Region.wanted o (yielded all.toArray a.tmps) = c := by
  unfold guardIs at h
  unfold Region.wanted
  split at h
  · rename_i hg; rw [hg]; exact Option.some.inj h
  · rename_i s b hg
    rw [hg]
    split at h
    · rename_i o' ho
      split at h
      · rename_i d hd
        split at h
        · rename_i c' hl
          have h1 := ha.2.2 d _ hl
          simp only [Act.eval, Array.getD_eq_getD_getElem?] at h1
          have h2 := Option.some.inj h
          subst h2
          have h3 : a.tmps[d]? = some (.bool c') := by
            cases hx : a.tmps[d]? with
            | none => rw [hx] at h1; simp [undef] at h1
            | some u => rw [hx] at h1; simp at h1; rw [h1]
          simp [yielded, ho, hd, h3]
        · rename_i c' hl
          have h1 := ha.2.2 d _ hl
          simp only [Act.eval, Array.getD_eq_getD_getElem?] at h1
          have h2 := Option.some.inj h
          subst h2
          have h3 : ∀ u, a.tmps[d]? = some (.bool u) → False := by
            intro u hx
            rw [hx] at h1
            simp at h1
          have h4 : yielded all.toArray a.tmps s = none := by
            simp only [yielded]
            cases hx : a.tmps[d]? with
            | none => simp [ho, hd, hx]
            | some u => cases u <;> simp_all
          show (yielded all.toArray a.tmps s == some b) = false
          rw [h4]
          rfl
        · cases h
      · cases h
    · cases h

section
variable {P : Program} {Q : Exit → Act → World → Prop} {nT : Nat} {σ : Sv} {k : List TD} {w : World} {l : List Oper} {ty : TypeId} {ps : String} {af : Array Edge} {d : Nat} {x y z : Operand} {t t' : TypeId}

theorem wk_gT {gd : Nat × Bool} {op : Op} {dd : Option Nat} {all : List Oper} (hg : guardIs σ all (some gd) = some true) (h : wk P Q nT σ (.ops all.toArray (⟨dd, op, ty, ps, af, none⟩ :: l) :: k) w) :
    wk P Q nT σ (.ops all.toArray (⟨dd, op, ty, ps, af, some gd⟩ :: l) :: k) w := by
  intro a ha
  have h1 := guardIs_ok (o := ⟨dd, op, ty, ps, af, some gd⟩) ha hg
  have h2 := h a ha
  show wpList P _ _ _ a w
  change wpList P _ _ _ a w at h2
  unfold wpList at h2 ⊢
  rw [if_pos h1]
  rw [if_pos (show Region.wanted (⟨dd, op, ty, ps, af, none⟩ : Oper) (yielded all.toArray a.tmps) = true from rfl)] at h2
  exact h2
theorem Knows.putAny {nT : Nat} {σ : Sv} {a : Act} (h : Knows nT σ a) {d : Nat} (hd : look σ d = none) (v : Value) : Knows nT σ (a.put (some d) v) := by
  refine ⟨(put_size _ _ _).trans h.1, h.2.1, ?_⟩
  intro t u hu
  rw [eval_put_other _ _ _ _ (by intro e; subst e; rw [hd] at hu; cases hu)]
  exact h.2.2 t u hu
theorem wk_gF {gd : Nat × Bool} {op : Op} {all : List Oper} (hg : guardIs σ all (some gd) = some false) (hd : Nat.blt d nT = true) (h : wk P Q nT ((d, undef) :: σ) (.ops all.toArray l :: k) w) :
    wk P Q nT σ (.ops all.toArray (⟨some d, op, ty, ps, af, some gd⟩ :: l) :: k) w :=
  fun a ha => wpT_op_skip (guardIs_ok (o := ⟨some d, op, ty, ps, af, some gd⟩) ha hg) (h _ (ha.put hd undef))

/-- Where two ways meet. -/
def JoinQ (Q : Exit → Act → World → Prop) (nT : Nat) {ι : Type} (S : ι → Sv) (W : ι → World → Prop) : Exit → Act → World → Prop
  | .normal, a, w => ∃ i, Knows nT (S i) a ∧ W i w
  | e, a, w => Q e a w
theorem wk_join {ι : Type} (S : ι → Sv) (W : ι → World → Prop) {c : Operand} {p q : Code} {b : Bool} (hc : evs σ c = some (.bool b)) (ht : b = true → wk P (JoinQ Q nT S W) nT σ [.code p] w) (hf : b = false → wk P (JoinQ Q nT S W) nT σ [.code q] w)
    (hk : ∀ i w', W i w' → wk P Q nT (S i) k w') : wk P Q nT σ (.code (.cond c p q) :: k) w := by
  have key : ∀ (p : Code), wk P (JoinQ Q nT S W) nT σ [.code p] w → wk P Q nT σ (.code p :: k) w := by
    intro p hp a ha
    intro B kk cs
    obtain ⟨e, a', w', hq, harr⟩ := wpT_one (hp a ha) B kk cs
    refine ⟨e, a', w', ?_, harr⟩
    cases e with
    | normal => obtain ⟨i, h1, h2⟩ := hq; exact hk i w' h2 a' h1
    | exit _ => exact hq
    | goto _ => exact hq
    | ret => exact hq
    | panic _ => exact hq
    | outgrown => exact hq
  exact wk_cond hc (fun h => key p (ht h)) (fun h => key q (hf h))
theorem wk_joinEnd {ι : Type} {S : ι → Sv} {W : ι → World → Prop} (i : ι) (hS : (S i).map (fun p => look σ p.1) = (S i).map (fun p => some p.2)) (hW : W i w) : wk P (JoinQ Q nT S W) nT σ [] w :=
  fun _ ha => ⟨i, ha.weak (known_sub hS), hW⟩

/-! ## regions whose order is drawn -/
def ordB (l : Array Oper) : List (Nat × Bool) → Array Bool → Bool
  | [], listed => (Region.ready .any l listed).isEmpty
  | (i, true) :: r, listed => Region.noSelect l && Region.free .any l listed i && (Region.ready .any l listed).contains i && ordB l r (listed.setIfInBounds i true)
  | (i, false) :: r, listed => (Region.ready .any l listed == [i]) && ordB l r (listed.setIfInBounds i true)

/-- What ends in a panic does not look at the slots. -/
def PQ (Q : Exit → Act → World → Prop) : Prop := ∀ c (a : Act) (d : Nat) (v : Value) (w : World), Q (.panic c) (a.put (some d) v) w → Q (.panic c) a w
theorem pq0 {fn : Func} {R : Ending → World → Prop} : PQ (bodyPost P fn R) := fun c a d v w h => by
  simpa [bodyPost, Act.put] using h
theorem pqb {id : Nat} {K : Act → World → Prop} (h : PQ Q) : PQ (Exit.inBlock id (Exit.then K Q)) := h
theorem pql {id : Nat} {ι : Type} {S : ι → Sv} {W : ι → World → Prop} {μ : ι → Nat} {i : ι} (h : PQ Q) : PQ (LoopQ P Q k id nT S W μ i) := h

def wkD (P : Program) (Q : Exit → Act → World → Prop) (nT : Nat) (all : List Oper) (S : World → Prop) (σ : Sv) (k : List TD) (ord : List (Nat × Bool)) (ol : List Oper) (w : World) : Prop :=
  PQ Q → S w → ∀ listed, ordB all.toArray ord listed = true → ord.map (fun p => all[p.1]?) = ol.map some → ∀ a, Knows nT σ a → wpAnyH P .any all.toArray (Exit.then (wpT P Q k) Q) S ord.length listed a w

def permOps (l : List Oper) (ord : List (Nat × Bool)) : List Oper := ord.filterMap fun p => l[p.1]?
theorem wk_draw (S : World → Prop) (ord : List (Nat × Bool)) {id : Nat} (hm : P.follows .mixedOrders = true) (hq : PQ Q) (ho : ordB l.toArray ord (Array.replicate l.length false) = true) (hn : Nat.beq ord.length l.length = true)
    (hl : ord.map (fun p => l[p.1]?) = (permOps l ord).map some) (hS : ∀ w1 : World, w1.heap = w.heap → Below w.heap.size w w1 → S w1) (h : ∀ w1 : World, w1.heap = w.heap → Below w.heap.size w w1 → wkD P Q nT l S σ k ord (permOps l ord) w1) :
    wk P Q nT σ (.code (.region id l.toArray true) :: k) w := by
  intro a ha
  have hn := Nat.eq_of_beq_eq_true hn
  refine wp_region_held (S := S) hm ?_
  have := h { w with drawn := w.drawn + 1 } rfl ⟨rfl, rfl, rfl, Nat.le_refl _, fun _ _ => rfl⟩ hq (hS _ rfl ⟨rfl, rfl, rfl, Nat.le_refl _, fun _ _ => rfl⟩) _ ho hl a ha
  rw [hn] at this
  simpa using this
theorem wd_done {S : World → Prop} {all : List Oper} (h : wk P Q nT σ k w) : wkD P Q nT all S σ k [] [] w := by
  intro _ _ listed ho _ a ha
  exact wpAnyH_done (by simpa [ordB] using ho) (h a ha) _
section
variable {S : World → Prop} {all : List Oper} {i : Nat} {ord : List (Nat × Bool)} {ol : List Oper} {g : Option (Nat × Bool)}
theorem wd_val {op : Op} {v : Value} (hg : guardIs σ all g = some true) (hr : ∀ a, Knows nT σ a → ∀ w', S w' → (execOp a.eval ⟨some d, op, ty, ps, af, g⟩).run P w' = .ok (.value v) w') (hd : Nat.blt d nT = true)
    (h : wkD P Q nT all S ((d, v) :: σ) k ord ol w) : wkD P Q nT all S σ k ((i, true) :: ord) (⟨some d, op, ty, ps, af, g⟩ :: ol) w := by
  intro hq hS listed ho hl a ha
  simp only [ordB, Bool.and_eq_true] at ho
  simp only [List.map_cons, List.cons.injEq] at hl
  refine wpAnyH_take (i := i) (oi := ⟨some d, op, ty, ps, af, g⟩) (v := v) (by simpa using hl.1) ho.1.1.1 ho.1.1.2 ho.1.2 (fun c a w h => hq c a d v w h) ?_ hS (h hq hS _ ho.2 hl.2 _ (ha.put hd v))
  exact .inl ⟨guardIs_ok (o := ⟨some d, op, ty, ps, af, g⟩) ha hg, hr a ha⟩
theorem wd_skip {op : Op} (hg : guardIs σ all g = some false) (hd : Nat.blt d nT = true) (h : wkD P Q nT all S ((d, undef) :: σ) k ord ol w) : wkD P Q nT all S σ k ((i, true) :: ord) (⟨some d, op, ty, ps, af, g⟩ :: ol) w := by
  intro hq hS listed ho hl a ha
  simp only [ordB, Bool.and_eq_true] at ho
  simp only [List.map_cons, List.cons.injEq] at hl
  refine wpAnyH_take (i := i) (oi := ⟨some d, op, ty, ps, af, g⟩) (v := undef) (by simpa using hl.1) ho.1.1.1 ho.1.1.2 ho.1.2 (fun c a w h => hq c a d undef w h) ?_ hS (h hq hS _ ho.2 hl.2 _ (ha.put hd undef))
  exact .inr ⟨guardIs_ok (o := ⟨some d, op, ty, ps, af, g⟩) ha hg, rfl⟩
theorem wd_skip1 {op : Op} (hg : guardIs σ all g = some false) (hd : Nat.blt d nT = true) (h : wkD P Q nT all S ((d, undef) :: σ) k ord ol w) : wkD P Q nT all S σ k ((i, false) :: ord) (⟨some d, op, ty, ps, af, g⟩ :: ol) w := by
  intro hq hS listed ho hl a ha
  simp only [ordB, Bool.and_eq_true] at ho
  simp only [List.map_cons, List.cons.injEq] at hl
  refine wpAnyH_all (rs := [i]) (by simpa using ho.1) (by simp) ?_
  intro j hj
  obtain rfl := List.mem_singleton.1 hj
  unfold wpOp
  have h1 : all.toArray[j]? = some (⟨some d, op, ty, ps, af, g⟩ : Oper) := by simpa using hl.1
  simp only [h1]
  rw [if_neg (by rw [guardIs_ok (o := ⟨some d, op, ty, ps, af, g⟩) ha hg]; simp)]
  exact ⟨hS, h hq hS _ ho.2 hl.2 _ (ha.put hd undef)⟩
/-- The one operation that may come up. -/
theorem wd_one {op : Op} {v : Value} {w' : World} (hg : guardIs σ all g = some true) (hr : ∀ a, Knows nT σ a → (execOp a.eval ⟨some d, op, ty, ps, af, g⟩).run P w = .ok (.value v) w') (hd : Nat.blt d nT = true) (hS' : S w')
    (h : wkD P Q nT all S ((d, v) :: σ) k ord ol w') : wkD P Q nT all S σ k ((i, false) :: ord) (⟨some d, op, ty, ps, af, g⟩ :: ol) w := by
  intro hq hS listed ho hl a ha
  simp only [ordB, Bool.and_eq_true] at ho
  simp only [List.map_cons, List.cons.injEq] at hl
  refine wpAnyH_all (rs := [i]) (by simpa using ho.1) (by simp) ?_
  intro j hj
  obtain rfl := List.mem_singleton.1 hj
  unfold wpOp
  have h1 : all.toArray[j]? = some (⟨some d, op, ty, ps, af, g⟩ : Oper) := by simpa using hl.1
  simp only [h1]
  rw [if_pos (guardIs_ok (o := ⟨some d, op, ty, ps, af, g⟩) ha hg)]
  refine .inl ?_
  unfold Oper.wp
  rw [hr a ha]
  exact ⟨hS', h hq hS' _ ho.2 hl.2 _ (ha.put hd v)⟩
theorem wd_call {f : FuncId} {args : List Operand} {ts : Array TypeId} {vs : List Value} (hg : guardIs σ all g = some true) (hf : Callable P f) (hv : args.map (evs σ) = vs.map some) (hd : Nat.blt d nT = true)
    (h : Calls P f vs.toArray w fun e w' => ∃ v, e = .returned v ∧ S w' ∧ wkD P Q nT all S ((d, v) :: σ) k ord ol w') : wkD P Q nT all S σ k ((i, false) :: ord) (⟨some d, .call ⟨.value (.func f), args.toArray, ts⟩, ty, ps, af, g⟩ :: ol) w := by
  intro hq hS listed ho hl a ha
  simp only [ordB, Bool.and_eq_true] at ho
  simp only [List.map_cons, List.cons.injEq] at hl
  refine wpAnyH_all (rs := [i]) (by simpa using ho.1) (by simp) ?_
  intro j hj
  obtain rfl := List.mem_singleton.1 hj
  unfold wpOp
  have h1 : all.toArray[j]? = some (⟨some d, .call ⟨.value (.func f), args.toArray, ts⟩, ty, ps, af, g⟩ : Oper) := by simpa using hl.1
  simp only [h1]
  rw [if_pos (guardIs_ok (o := ⟨some d, .call ⟨.value (.func f), args.toArray, ts⟩, ty, ps, af, g⟩) ha hg)]
  refine .inl ?_
  unfold Oper.wp
  rw [run_callf hf a.eval rfl _ _ _ rfl w]
  have hm : args.toArray.map a.eval = vs.toArray := by
    rw [List.map_toArray]
    congr 1
    have key : ∀ (args : List Operand) (vs : List Value), args.map (evs σ) = vs.map some → args.map a.eval = vs := by
      intro args
      induction args with
      | nil => intro vs h; cases vs with
        | nil => rfl
        | cons _ _ => simp at h
      | cons x r ih => intro vs h; cases vs with
        | nil => simp at h
        | cons v vs =>
          simp only [List.map_cons, List.cons.injEq] at h
          rw [List.map_cons, ha.ev h.1, ih vs h.2]
    exact key args vs hv
  simp only [Oper.upon]
  rw [hm]
  refine h.mono ?_
  rintro e w' ⟨v, rfl, hS', hw⟩
  exact ⟨hS', hw hq hS' _ ho.2 hl.2 _ (ha.put hd v)⟩
theorem wd_append {u v : Value} {R : Value → World → Prop} (hg : guardIs σ all g = some true) (hx : evs σ x = some u) (hy : evs σ y = some v)
    (hr : ∀ (ρ : Operand → Value) (o : Oper), o.op = .call ⟨.builtin .append, #[x, y], #[t, t']⟩ → ρ x = u → ρ y = v → ∃ d' w', (execOp ρ o).run P w = .ok (.value d') w' ∧ S w' ∧ R d' w')
    (hd : Nat.blt d nT = true) (h : ∀ d' w', R d' w' → wkD P Q nT all S ((d, d') :: σ) k ord ol w') :
    wkD P Q nT all S σ k ((i, false) :: ord) (⟨some d, .call ⟨.builtin .append, #[x, y], #[t, t']⟩, ty, ps, af, g⟩ :: ol) w := by
  intro hq hS listed ho hl a ha
  simp only [ordB, Bool.and_eq_true] at ho
  simp only [List.map_cons, List.cons.injEq] at hl
  refine wpAnyH_all (rs := [i]) (by simpa using ho.1) (by simp) ?_
  intro j hj
  obtain rfl := List.mem_singleton.1 hj
  unfold wpOp
  have h1 : all.toArray[j]? = some (⟨some d, .call ⟨.builtin .append, #[x, y], #[t, t']⟩, ty, ps, af, g⟩ : Oper) := by simpa using hl.1
  simp only [h1]
  rw [if_pos (guardIs_ok (o := ⟨some d, .call ⟨.builtin .append, #[x, y], #[t, t']⟩, ty, ps, af, g⟩) ha hg)]
  refine .inl ?_
  obtain ⟨d', w', h2, h3, h4⟩ := hr a.eval ⟨some d, .call ⟨.builtin .append, #[x, y], #[t, t']⟩, ty, ps, af, g⟩ rfl (ha.ev hx) (ha.ev hy)
  unfold Oper.wp
  rw [h2]
  exact ⟨h3, h d' w' h4 hq h3 _ ho.2 hl.2 _ (ha.put hd d')⟩

theorem wd_move {v : Value} (hg : guardIs σ all g = some true) (hx : evs σ x = some v) (hd : Nat.blt d nT = true) (h : wkD P Q nT all S ((d, v) :: σ) k ord ol w) : wkD P Q nT all S σ k ((i, true) :: ord) (⟨some d, .move x, ty, ps, af, g⟩ :: ol) w :=
  wd_val hg (fun _ ha _ _ => by rw [run_move _ _ rfl, ha.ev hx]) hd h
theorem wd_assign {v : Value} (hg : guardIs σ all g = some true) (hx : evs σ x = some v) (hd : Nat.blt d nT = true) (h : wkD P Q nT all S ((d, v) :: σ) k ord ol w) : wkD P Q nT all S σ k ((i, true) :: ord) (⟨some d, .assign x, ty, ps, af, g⟩ :: ol) w :=
  wd_val hg (fun _ ha _ _ => by rw [run_assign _ _ rfl, ha.ev hx]) hd h
theorem wd_pick {b : Bool} {u v : Value} (hg : guardIs σ all g = some true) (hc : evs σ z = some (.bool b)) (hx : evs σ x = some u) (hy : evs σ y = some v) (hd : Nat.blt d nT = true) (h : wkD P Q nT all S ((d, if b then u else v) :: σ) k ord ol w) :
    wkD P Q nT all S σ k ((i, true) :: ord) (⟨some d, .pick z x y, ty, ps, af, g⟩ :: ol) w :=
  wd_val hg (fun _ ha _ _ => by rw [run_pick _ _ rfl (ha.ev hc), ha.ev hx, ha.ev hy]) hd h
theorem wd_not {b : Bool} (hg : guardIs σ all g = some true) (hx : evs σ x = some (.bool b)) (hd : Nat.blt d nT = true) (h : wkD P Q nT all S ((d, .bool !b) :: σ) k ord ol w) :
    wkD P Q nT all S σ k ((i, true) :: ord) (⟨some d, .unOp .not t x, ty, ps, af, g⟩ :: ol) w := wd_val hg (fun _ ha _ _ => run_not _ _ rfl (ha.ev hx)) hd h
theorem wd_add {kk : IntKind} {n m : Int} (hg : guardIs σ all g = some true) (hx : evs σ x = some (.int kk n)) (hy : evs σ y = some (.int kk m)) (hd : Nat.blt d nT = true) (h : wkD P Q nT all S ((d, .int kk (kk.wrap (n + m))) :: σ) k ord ol w) :
    wkD P Q nT all S σ k ((i, true) :: ord) (⟨some d, .binOp .add t x y t', ty, ps, af, g⟩ :: ol) w := wd_val hg (fun _ ha _ _ => run_add rfl (ha.ev hx) (ha.ev hy)) hd h
theorem wd_cmp {op : BinOp} {kk : IntKind} {n m : Int} {b : Bool} (hg : guardIs σ all g = some true) (hx : evs σ x = some (.int kk n)) (hy : evs σ y = some (.int kk m)) (hc : cmp op n m = some b) (hd : Nat.blt d nT = true) (h : wkD P Q nT all S ((d, .bool b) :: σ) k ord ol w) :
    wkD P Q nT all S σ k ((i, true) :: ord) (⟨some d, .binOp op t x y t', ty, ps, af, g⟩ :: ol) w := wd_val hg (fun _ ha _ _ => run_cmp rfl (ha.ev hx) (ha.ev hy) hc) hd h
theorem wd_conv {kk k1 k2 : IntKind} {n : Int} (hg : guardIs σ all g = some true) (hx : evs σ x = some (.int kk n)) (hs : P.underlying t = some (.int k1)) (ht : P.underlying t' = some (.int k2)) (hd : Nat.blt d nT = true)
    (h : wkD P Q nT all S ((d, .int k2 (k2.wrap n)) :: σ) k ord ol w) : wkD P Q nT all S σ k ((i, true) :: ord) (⟨some d, .convert t t' x, ty, ps, af, g⟩ :: ol) w :=
  wd_val hg (fun _ ha _ _ => run_convert rfl hs ht (ha.ev hx)) hd h
theorem wd_slen {e : TypeId} {A : Option Addr} {n c : Nat} (hg : guardIs σ all g = some true) (hx : evs σ x = some (.slice A n c)) (ht : P.underlying t = some (.slice e)) (hd : Nat.blt d nT = true) (h : wkD P Q nT all S ((d, .int .i64 n) :: σ) k ord ol w) :
    wkD P Q nT all S σ k ((i, true) :: ord) (⟨some d, .call ⟨.builtin .len, #[x], #[t]⟩, ty, ps, af, g⟩ :: ol) w := wd_val hg (fun _ ha _ _ => run_len rfl ht (ha.ev hx)) hd h
theorem wd_field {f b o : Nat} {fs : Array Field} {fd : Field} {ti : TypeInfo} (hg : guardIs σ all g = some true) (hx : evs σ x = some (.pointer (some ⟨b, o, none⟩))) (hs : P.underlying t = some (.struct fs)) (hf : fs[f]? = some fd) (hi : P.info? fd.type = some ti) (hz : ti.size ≠ 0)
    (hd : Nat.blt d nT = true) (h : wkD P Q nT all S ((d, .pointer (some ⟨b, o + fd.offset, none⟩)) :: σ) k ord ol w) : wkD P Q nT all S σ k ((i, true) :: ord) (⟨some d, .fieldAddr t x f, ty, ps, af, g⟩ :: ol) w :=
  wd_val hg (fun _ ha _ _ => by rw [run_fieldAddr _ _ rfl (ha.ev hx) hs hf hi hz, add_addr]) hd h
theorem wd_load {ad : Addr} {v : Value} {dd : TypeDesc} (hg : guardIs σ all g = some true) (hx : evs σ x = some (.pointer (some ad))) (hs : P.underlying t = some dd) (ha : aggB dd = false) (hv : ∀ w', S w' → w'.cell? ad = some v) (hd : Nat.blt d nT = true)
    (h : wkD P Q nT all S ((d, v) :: σ) k ord ol w) : wkD P Q nT all S σ k ((i, true) :: ord) (⟨some d, .load t x, ty, ps, af, g⟩ :: ol) w := wd_val hg (fun _ hk w' hS => run_load1 _ _ rfl (hk.ev hx) hs ha (hv w' hS)) hd h
theorem wd_loadA {ad : Addr} {vs : List Value} {dd : TypeDesc} {ti : TypeInfo} (hg : guardIs σ all g = some true) (hx : evs σ x = some (.pointer (some ad))) (hs : P.underlying t = some dd) (ha : aggB dd = true) (hi : P.info? t = some ti) (hn : ti.size = vs.length)
    (hv : ∀ w', S w' → ∀ j v, vs[j]? = some v → w'.cell? (ad.add j) = some v) (hd : Nat.blt d nT = true) (h : wkD P Q nT all S ((d, .agg vs.toArray) :: σ) k ord ol w) :
    wkD P Q nT all S σ k ((i, true) :: ord) (⟨some d, .load t x, ty, ps, af, g⟩ :: ol) w := wd_val hg (fun _ hk w' hS => run_load_agg rfl (hk.ev hx) hs ha hi hn (hv w' hS)) hd h
theorem wd_idx {b off n c j : Nat} {e : TypeId} {ti : TypeInfo} {kk : IntKind} (hg : guardIs σ all g = some true) (hx : evs σ x = some (.slice (some ⟨b, off, none⟩) n c)) (hy : evs σ y = some (.int kk j)) (hs : P.underlying t = some (.slice e)) (hi : P.info? e = some ti) (hj : j < n)
    (hd : Nat.blt d nT = true) (h : wkD P Q nT all S ((d, .pointer (some ⟨b, off + j * ti.size, none⟩)) :: σ) k ord ol w) : wkD P Q nT all S σ k ((i, true) :: ord) (⟨some d, .indexAddr t x y, ty, ps, af, g⟩ :: ol) w :=
  wd_val hg (fun _ ha _ _ => run_indexAddr rfl hs hi (ha.ev hx) kk (ha.ev hy) hj) hd h
end
end

attribute [irreducible] wkD
/-! ## slices that lie in given blocks -/
def OwnC (w : World) (X : Nat → Prop) (e : TypeId) (sz : Nat) (d : Value) (n : Nat) (xs : List Value) : Prop := w.ownsRow 0 e sz d n xs ∧ ∀ g, d.ownBlock = some g → X g
theorem OwnC.nil (w : World) (X : Nat → Prop) (e : TypeId) (sz : Nat) : OwnC w X e sz (.slice none 0 0) 0 [] := ⟨World.ownsRow_nil _ _ _ _, fun g h => by simp [Value.ownBlock] at h⟩
theorem OwnC.mono {w : World} {X Y : Nat → Prop} {e : TypeId} {sz n : Nat} {d : Value} {xs : List Value} (h : OwnC w X e sz d n xs) (hy : ∀ b, b < w.heap.size → X b → Y b) : OwnC w Y e sz d n xs := by
  refine ⟨h.1, fun g hg => ?_⟩
  rcases h.1.2 with ⟨rfl, _⟩ | ⟨g', cap, cur, rfl, _, hh, _⟩
  · simp [Value.ownBlock] at hg
  · simp only [Value.ownBlock, Option.some.injEq] at hg
    subst hg
    exact hy _ (lt_of_some hh) (h.2 _ rfl)
theorem OwnC.of_own {w : World} {base : Nat} {e : TypeId} {sz n : Nat} {d : Value} {xs : List Value} (h : w.ownsRow base e sz d n xs) : OwnC w (fun b => base ≤ b) e sz d n xs := by
  refine ⟨⟨h.1, h.2.imp id fun ⟨g, cap, cur, h1, h2, h3⟩ => ⟨g, cap, cur, h1, Nat.zero_le _, h3⟩⟩, fun g hg => ?_⟩
  rcases h.2 with ⟨rfl, _⟩ | ⟨g', cap, cur, rfl, hb, hh, _⟩
  · simp [Value.ownBlock] at hg
  · simp only [Value.ownBlock, Option.some.injEq] at hg
    omega
theorem OwnC.to_own {w : World} {base : Nat} {X : Nat → Prop} {e : TypeId} {sz n : Nat} {d : Value} {xs : List Value} (h : OwnC w X e sz d n xs) (hx : ∀ b, X b → base ≤ b) : w.ownsRow base e sz d n xs :=
  ⟨h.1.1, by
    rcases h.1.2 with h1 | ⟨g, cap, cur, rfl, _, h3⟩
    · exact .inl h1
    · exact .inr ⟨g, cap, cur, rfl, hx _ (h.2 g rfl), h3⟩⟩
theorem OwnC.keep {w w' : World} {X Y : Nat → Prop} {e : TypeId} {sz n : Nat} {d : Value} {xs : List Value} (h : OwnC w X e sz d n xs) (k : Keeps Y w w') (hx : ∀ b, b < w.heap.size → X b → ¬ Y b) : OwnC w' X e sz d n xs := by
  refine ⟨⟨h.1.1, ?_⟩, h.2⟩
  rcases h.1.2 with h1 | ⟨g, cap, cur, rfl, h2, h3, h4⟩
  · exact .inl h1
  · exact .inr ⟨g, cap, cur, rfl, h2, k.at (hx g (lt_of_some h3) (h.2 g rfl)) h3, h4⟩
/-- Where a slice of bytes that is one's own is read. -/
theorem OwnC.bytes {w : World} {X Y : Nat → Prop} {e : TypeId} {d : Value} {bs : List UInt8} (h : OwnC w X e 1 d bs.length (bs.map bv)) (hx : ∀ b, b < w.heap.size → X b → ¬ Y b) : BytesRep0 w Y d bs := by
  rcases h.1.2 with ⟨rfl, h1⟩ | ⟨g, cap, cur, rfl, h2, h3, h4, h5, h6, h7⟩
  · exact .inl ⟨⟨_, rfl⟩, List.eq_nil_of_length_eq_zero h1⟩
  · refine .inr ⟨g, 0, _, cap, rfl, hx g (lt_of_some h3) (h.2 g rfl), lt_of_some h3, rfl, h4, fun i x hi => ?_⟩
    rw [cell_of_row w g (0 + i) cur e (0, 0) h3, Nat.zero_add, ← Array.getElem?_toList]
    have h8 : (bs.map bv)[i]? = some (bv x) := by rw [List.getElem?_map, hi]; rfl
    rw [← h7, List.getElem?_take] at h8
    split at h8
    · exact h8
    · cases h8

def OwnB (w : World) (X : Nat → Prop) (tB : TypeId) (d : Value) (bs : List UInt8) : Prop := OwnC w X tB 1 d bs.length (bs.map bv)

/-- Append onto it: it lies where it lay, or in a new block. -/
theorem app_in {P : Program} {t e : TypeId} (hB : ByteT P t e) {w : World} {X Y : Nat → Prop} {d v : Value} {bs xs : List UInt8} (hX : ∀ b, w.heap.size ≤ b → X b) (hv : BytesRep0 w Y v xs) (hown : OwnB w X e d bs) (hl : bs.length + xs.length ≤ lim)
    {x y : Operand} (ρ : Operand → Value) (o : Oper) (ho : o.op = .call ⟨.builtin .append, #[x, y], #[t, t]⟩) (hx : ρ x = d) (hy : ρ y = v) :
    ∃ d' w', (execOp ρ o).run P w = .ok (.value d') w' ∧ OwnB w' X e d' (bs ++ xs) ∧ w.grownBy w' d.ownBlock := by
  rcases hv with ⟨⟨A0, rfl⟩, rfl⟩ | ⟨b, oo, n, c, rfl, _, _, hlen, _, hcell⟩
  · exact ⟨d, w, run_append_nothing (base := 0) hB ho hx hy hown.1, by simpa using hown, World.grownBy.refl w _⟩
  · subst hlen
    obtain ⟨i, hi, hz, hs, hby⟩ := hB.info
    rw [lim_eq] at hl
    obtain ⟨d', w', h1, h2, h3, _, h4⟩ := run_append_own_at (P := P) w 0 t o.type e i (.int .u8 0) 1 1 hB.sl hi hz hs hby rfl (by omega) d bs.length (bs.map bv) hown.1 ⟨b, oo, none⟩ xs.length c (xs.map bv) (by simp)
      (by intro j u hu
          rw [List.getElem?_map, Option.map_eq_some_iff] at hu
          obtain ⟨b, hb1, rfl⟩ := hu
          rw [add_addr]
          exact hcell j b hb1)
      (by intro u hu
          obtain ⟨b, _, rfl⟩ := List.mem_map.1 hu
          rfl) (by unfold maxLen; omega) (by omega) (Nat.zero_le _)
    refine ⟨d', w', ?_, ⟨?_, ?_⟩, h3⟩
    · simp [execOp, ho, resolve, invoke, builtin, hx, hy, h1]
    · rw [List.length_append, List.map_append]
      exact h2
    · intro g hg
      rcases h4 with h4 | h4
      · exact hown.2 g (h4 ▸ hg)
      · rw [h4] at hg
        exact hX g (by rw [← Option.some.inj hg]; exact Nat.le_refl _)
theorem keeps_grown {w w' : World} {X : Nat → Prop} {e : TypeId} {sz n : Nat} {d : Value} {xs : List Value} (h : OwnC w X e sz d n xs) (hg : w.grownBy w' d.ownBlock) : Keeps X w w' :=
  ⟨hg.size, fun b hb hx => hg.block b hb (fun e => hx (h.2 b e.symm))⟩
/-- A block of another type stays. -/
theorem grown_other {w w' : World} {base : Nat} {e t : TypeId} {sz n b : Nat} {d : Value} {xs : List Value} {cur : Array Value} {z : Nat × Nat} (h : w.ownsRow base e sz d n xs) (hg : w.grownBy w' d.ownBlock) (hb : w.heap[b]? = some (.cells cur t z)) (hne : t ≠ e) : w'.heap[b]? = some (.cells cur t z) := by
  rw [hg.block b (lt_of_some hb) ?_, hb]
  intro e1
  rcases h.2 with ⟨rfl, _⟩ | ⟨g', cap, cur', rfl, _, hh, _⟩
  · simp [Value.ownBlock] at e1
  · simp only [Value.ownBlock, Option.some.injEq] at e1
    subst e1
    rw [hh] at hb
    simp only [Option.some.injEq, Obj.cells.injEq] at hb
    exact hne hb.2.1.symm
end Go.Proofs.Eng
