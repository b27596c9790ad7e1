/-
  Regions whose order is drawn, where two operations that turn memory may come in either order.
-/
import Derived.Test.YthejiimocbfagaaEngG
set_option linter.unusedVariables false
set_option linter.unusedSimpArgs false
namespace Go.Proofs.Eng
open Go Go.RowKit
attribute [local semireducible] wk wkD

section
variable {P : Program} {Q : Exit → Act → World → Prop} {nT : Nat} {σ : Sv} {k : List TD} {w : World} {all : List Oper} {S : World → Prop} {ty : TypeId} {ps : String} {af : Array Edge} {d : Nat} {x y z : Operand} {t t' : TypeId} {g : Option (Nat × Bool)}
def wkG (P : Program) (Q : Exit → Act → World → Prop) (nT : Nat) (all : List Oper) (S : World → Prop) (σ : Sv) (k : List TD) (n : Nat) (listed : Array Bool) (w : World) : Prop :=
  PQ Q → S w → ∀ a, Knows nT σ a → wpAnyH P .any all.toArray (Exit.then (wpT P Q k) Q) S n listed a w
def wgO (P : Program) (Q : Exit → Act → World → Prop) (nT : Nat) (all : List Oper) (S : World → Prop) (σ : Sv) (k : List TD) (n : Nat) (listed : Array Bool) (i : Nat) (w : World) : Prop :=
  PQ Q → S w → ∀ a, Knows nT σ a → wpOp P all.toArray (Exit.then (wpT P Q k) Q) i (fun a' w' => S w' ∧ wpAnyH P .any all.toArray (Exit.then (wpT P Q k) Q) S n (listed.setIfInBounds i true) a' w') a w
theorem wk_drawG (S : World → Prop) {id n : Nat} (hm : P.follows .mixedOrders = true) (hq : PQ Q) (hn : Nat.beq all.length n = true) (hS : ∀ w1 : World, w1.heap = w.heap → Below w.heap.size w w1 → S w1)
    (h : ∀ w1 : World, w1.heap = w.heap → Below w.heap.size w w1 → wkG P Q nT all S σ k n (Array.replicate n false) w1) : wk P Q nT σ (.code (.region id all.toArray true) :: k) w := by
  intro a ha
  have hn := Nat.eq_of_beq_eq_true hn
  subst hn
  refine wp_region_held (S := S) hm ?_
  have := h { w with drawn := w.drawn + 1 } rfl ⟨rfl, rfl, rfl, Nat.le_refl _, fun _ _ => rfl⟩ hq (hS _ rfl ⟨rfl, rfl, rfl, Nat.le_refl _, fun _ _ => rfl⟩) a ha
  simpa using this
/-- One that leaves memory alone comes first, whatever else may come. -/
theorem wg_take {n : Nat} {listed : Array Bool} {op : Op} {v : Value} (i : Nat) (hi : all[i]? = some ⟨some d, op, ty, ps, af, g⟩) (hs : Region.noSelect all.toArray = true) (hf : Region.free .any all.toArray listed i = true) (hc : (Region.ready .any all.toArray listed).contains i = true)
    (hg : guardIs σ all g = some true) (hr : ∀ a, Knows nT σ a → ∀ w', S w' → (execOp a.eval ⟨some d, op, ty, ps, af, g⟩).run P w' = .ok (.value v) w') (hd : Nat.blt d nT = true)
    (h : wkG P Q nT all S ((d, v) :: σ) k n (listed.setIfInBounds i true) w) : wkG P Q nT all S σ k (n + 1) listed w := by
  intro hq hS a ha
  refine wpAnyH_take (i := i) (oi := ⟨some d, op, ty, ps, af, g⟩) (v := v) (by simpa using hi) hs hf hc (fun c a w h => hq c a d v w h) ?_ hS (h hq hS _ (ha.put hd v))
  exact .inl ⟨guardIs_ok (o := ⟨some d, op, ty, ps, af, g⟩) ha hg, hr a ha⟩
/-- One that its guard leaves out. -/
theorem wg_skip {n : Nat} {listed : Array Bool} {op : Op} (i : Nat) (hi : all[i]? = some ⟨some d, op, ty, ps, af, g⟩) (hs : Region.noSelect all.toArray = true) (hf : Region.free .any all.toArray listed i = true) (hc : (Region.ready .any all.toArray listed).contains i = true)
    (hg : guardIs σ all g = some false) (hd : Nat.blt d nT = true) (h : wkG P Q nT all S ((d, undef) :: σ) k n (listed.setIfInBounds i true) w) : wkG P Q nT all S σ k (n + 1) listed w := by
  intro hq hS a ha
  refine wpAnyH_take (i := i) (oi := ⟨some d, op, ty, ps, af, g⟩) (v := undef) (by simpa using hi) hs hf hc (fun c a w h => hq c a d undef w h) ?_ hS (h hq hS _ (ha.put hd undef))
  exact .inr ⟨guardIs_ok (o := ⟨some d, op, ty, ps, af, g⟩) ha hg, rfl⟩
theorem wg_one {n i : Nat} {listed : Array Bool} (hr : (Region.ready .any all.toArray listed == [i]) = true) (h : wgO P Q nT all S σ k n listed i w) : wkG P Q nT all S σ k (n + 1) listed w := by
  intro hq hS a ha
  refine wpAnyH_all (rs := [i]) (by simpa using hr) (by simp) ?_
  intro j hj
  obtain rfl := List.mem_singleton.1 hj
  exact h hq hS a ha
theorem wg_two {n i j : Nat} {listed : Array Bool} (hr : (Region.ready .any all.toArray listed == [i, j]) = true) (h : wgO P Q nT all S σ k n listed i w) (h' : wgO P Q nT all S σ k n listed j w) : wkG P Q nT all S σ k (n + 1) listed w := by
  intro hq hS a ha
  refine wpAnyH_all (rs := [i, j]) (by simpa using hr) (by simp) ?_
  intro q hq'
  simp only [List.mem_cons, List.not_mem_nil, or_false] at hq'
  rcases hq' with rfl | rfl
  · exact h hq hS a ha
  · exact h' hq hS a ha
theorem wg_done {listed : Array Bool} (hr : (Region.ready .any all.toArray listed).isEmpty = true) (h : wk P Q nT σ k w) : wkG P Q nT all S σ k 0 listed w :=
  fun _ _ a ha => ⟨by simpa using hr, h a ha⟩
theorem wgo_val {n i : Nat} {listed : Array Bool} {op : Op} {v : Value} {w' : World} (hi : all[i]? = some ⟨some d, op, ty, ps, af, g⟩) (hg : guardIs σ all g = some true) (hr : ∀ a, Knows nT σ a → (execOp a.eval ⟨some d, op, ty, ps, af, g⟩).run P w = .ok (.value v) w') (hd : Nat.blt d nT = true) (hS' : S w')
    (h : wkG P Q nT all S ((d, v) :: σ) k n (listed.setIfInBounds i true) w') : wgO P Q nT all S σ k n listed i w := by
  intro hq hS a ha
  unfold wpOp
  have h1 : all.toArray[i]? = some (⟨some d, op, ty, ps, af, g⟩ : Oper) := by simpa using hi
  simp only [h1]
  rw [if_pos (guardIs_ok (o := ⟨some d, op, ty, ps, af, g⟩) ha hg)]
  refine .inl ?_
  unfold Oper.wp
  rw [hr a ha]
  exact ⟨hS', h hq hS' _ (ha.put hd v)⟩
theorem wgo_call {n i : Nat} {listed : Array Bool} {f : FuncId} {args : List Operand} {ts : Array TypeId} {vs : List Value} (hi : all[i]? = some ⟨some d, .call ⟨.value (.func f), args.toArray, ts⟩, ty, ps, af, g⟩) (hg : guardIs σ all g = some true) (hf : Callable P f) (hv : args.map (evs σ) = vs.map some) (hd : Nat.blt d nT = true)
    (h : Calls P f vs.toArray w fun e w' => ∃ v, e = .returned v ∧ S w' ∧ wkG P Q nT all S ((d, v) :: σ) k n (listed.setIfInBounds i true) w') : wgO P Q nT all S σ k n listed i w := by
  intro hq hS a ha
  unfold wpOp
  have h1 : all.toArray[i]? = some (⟨some d, .call ⟨.value (.func f), args.toArray, ts⟩, ty, ps, af, g⟩ : Oper) := by simpa using hi
  simp only [h1]
  rw [if_pos (guardIs_ok (o := ⟨some d, .call ⟨.value (.func f), args.toArray, ts⟩, ty, ps, af, g⟩) ha hg)]
  refine .inl ?_
  unfold Oper.wp
  rw [run_callf hf a.eval rfl _ _ _ rfl w]
  have hm : args.toArray.map a.eval = vs.toArray := by
    rw [List.map_toArray]
    congr 1
    have key : ∀ (args : List Operand) (vs : List Value), args.map (evs σ) = vs.map some → args.map a.eval = vs := by
      intro args
      induction args with
      | nil => intro vs h; cases vs with
        | nil => rfl
        | cons _ _ => simp at h
      | cons x r ih => intro vs h; cases vs with
        | nil => simp at h
        | cons v vs =>
          simp only [List.map_cons, List.cons.injEq] at h
          rw [List.map_cons, ha.ev h.1, ih vs h.2]
    exact key args vs hv
  simp only [Oper.upon]
  rw [hm]
  refine h.mono ?_
  rintro e w' ⟨v, rfl, hS', hw⟩
  exact ⟨hS', hw hq hS' _ (ha.put hd v)⟩
end
section
variable {P : Program} {Q : Exit → Act → World → Prop} {nT : Nat} {σ : Sv} {k : List TD} {w : World} {all : Array Oper} {l : List Oper} {ty : TypeId} {ps : String} {af : Array Edge} {d : Nat} {x y : Operand} {t t' : TypeId}
theorem wk_appR {u v : Value} {R : Value → World → Prop} (hx : evs σ x = some u) (hy : evs σ y = some v)
    (hr : ∀ (ρ : Operand → Value) (o : Oper), o.op = .call ⟨.builtin .append, #[x, y], #[t, t']⟩ → ρ x = u → ρ y = v → ∃ d' w', (execOp ρ o).run P w = .ok (.value d') w' ∧ R d' w') (hd : Nat.blt d nT = true)
    (h : ∀ d' w', R d' w' → wk P Q nT ((d, d') :: σ) (.ops all l :: k) w') : wk P Q nT σ (.ops all (⟨some d, .call ⟨.builtin .append, #[x, y], #[t, t']⟩, ty, ps, af, none⟩ :: l) :: k) w := by
  intro a ha
  obtain ⟨d', w', h1, h2⟩ := hr a.eval ⟨some d, .call ⟨.builtin .append, #[x, y], #[t, t']⟩, ty, ps, af, none⟩ rfl (ha.ev hx) (ha.ev hy)
  exact wpT_value rfl h1 (h d' w' h2 _ (ha.put hd d'))
theorem own_bs0 {e : TypeId} (w : World) : Own (w.alloc (.cells #[] e)) w.heap.size e (.slice (some ⟨w.heap.size, 0, none⟩) 0 0) [] :=
  ⟨by simp, .inr ⟨w.heap.size, 0, #[], rfl, Nat.le_refl _, heap_alloc_new w _, Nat.le_refl _, by decide, rfl, rfl⟩⟩
/-- Octets behind a slice that is not nil. -/
theorem app_repN {e : TypeId} {base : Nat} {X : Nat → Prop} {u v : Value} {bs xs : List UInt8} (hB : ByteT P t e) (hv : BytesRep0 w X v xs) (hown : Own w base e u bs) (hn : u ≠ .slice none 0 0) (hb : base ≤ w.heap.size) (hl : bs.length + xs.length ≤ lim)
    (ρ : Operand → Value) (o : Oper) (ho : o.op = .call ⟨.builtin .append, #[x, y], #[t, t]⟩) (hx : ρ x = u) (hy : ρ y = v) :
    ∃ d' w', (execOp ρ o).run P w = .ok (.value d') w' ∧ (Own w' base e d' (bs ++ xs) ∧ d' ≠ .slice none 0 0 ∧ Below base w w') := by
  rcases hv with ⟨⟨A0, rfl⟩, rfl⟩ | ⟨b, oo, n, c, rfl, _, _, hlen, _, hcell⟩
  · exact ⟨u, w, run_append_nothing hB ho hx hy hown, by simpa using hown, hn, Below.refl _ _⟩
  · subst hlen
    obtain ⟨i, hi, hz, hs, hby⟩ := hB.info
    rw [lim_eq] at hl
    obtain ⟨d', w', h1, h2, h3, h4⟩ := run_append_own (P := P) w base t o.type e i (.int .u8 0) 1 1 hB.sl hi hz hs hby rfl (by omega) u bs.length (bs.map bv) hown ⟨b, oo, none⟩ xs.length c (xs.map bv) (by simp)
      (by intro j q hq
          rw [List.getElem?_map, Option.map_eq_some_iff] at hq
          obtain ⟨z, hz1, rfl⟩ := hq
          rw [add_addr]
          exact hcell j z hz1)
      (by intro q hq
          obtain ⟨z, _, rfl⟩ := List.mem_map.1 hq
          rfl) (by unfold maxLen; omega) (by omega) hb
    refine ⟨d', w', by simp [execOp, ho, resolve, invoke, builtin, hx, hy, h1], ?_, fun e => hn (h4.1 e).1, below_of_grown hown hb h3⟩
    unfold Own
    rw [List.length_append, List.map_append]
    exact h2
end
end Go.Proofs.Eng
