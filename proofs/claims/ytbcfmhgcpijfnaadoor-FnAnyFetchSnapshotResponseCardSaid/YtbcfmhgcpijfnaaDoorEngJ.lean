/-
  Arrays cut to slices; sixteen octets copied; regions with two orders.
-/
import Derived.Test.YtbcfmhgcpijfnaaDoorEngI
import Derived.Test.YtbcfmhgcpijfnaaDoorPX
set_option linter.unusedVariables false
set_option linter.unusedSimpArgs false
namespace Go.Proofs.Eng
open Go Go.RowKit
attribute [local semireducible] wk wkD

theorem run_sliceArr {P : Program} {ρ : Operand → Value} {w : World} {o : Oper} {x : Operand} {t e n b : Nat} {i : TypeInfo} (ho : o.op = .slice t x none none none) (ht : P.underlying t = some (.array n e)) (hi : P.info? e = some i) (hn : n ≠ 0) (hx : ρ x = .pointer (some ⟨b, 0, none⟩)) :
    (execOp ρ o).run P w = .ok (.value (.slice (some ⟨b, 0, none⟩) n n)) w := by
  simp [execOp, ho, hx, Instr.sliceAt, Instr.sureAddr, run_underlying ht, Instr.sliceBounds, Instr.sliceBound, sizeOf, typeInfo, hi, hn, add_addr]
theorem wk_sliceArr {P : Program} {Q : Exit → Act → World → Prop} {nT : Nat} {σ : Sv} {k : List TD} {w : World} {all : Array Oper} {l : List Oper} {ty : TypeId} {ps : String} {af : Array Edge} {d : Nat} {x : Operand} {t e n b : Nat} {i : TypeInfo}
    (hx : evs σ x = some (.pointer (some ⟨b, 0, none⟩))) (ht : P.underlying t = some (.array n e)) (hi : P.info? e = some i) (hn : n ≠ 0) (hd : Nat.blt d nT = true) (h : wk P Q nT ((d, .slice (some ⟨b, 0, none⟩) n n) :: σ) (.ops all l :: k) w) :
    wk P Q nT σ (.ops all (⟨some d, .slice t x none none none, ty, ps, af, none⟩ :: l) :: k) w := wk_val (fun _ ha => run_sliceArr rfl ht hi hn (ha.ev hx)) hd h
def uuidVals : Option (List UInt8) → List Value
  | some l => l.map bv
  | none => List.replicate 16 (Value.int .u8 0)
/-- Sixteen octets, or none, into a row of zeros. -/
theorem copyU {P : Program} {w : World} {t e tu b : Nat} (hB : ByteT P t e) {X : Nat → Prop} {v : Value} {s : Option (List UInt8)}
    (hb : w.heap[b]? = some (.cells (List.replicate 16 (Value.int .u8 0)).toArray tu (0, 0))) (hv : SrcRep w X v s) (hs : ∀ l, s = some l → l.length = 16) :
    ∃ u, ∀ (ρ : Operand → Value) (o : Oper) (x y : Operand), o.op = .call ⟨.builtin .copy, #[x, y], #[t, t]⟩ → ρ x = .slice (some ⟨b, 0, none⟩) 16 16 → ρ y = v → (execOp ρ o).run P w = .ok (.value u) (w.setRow b (uuidVals s).toArray) := by
  obtain ⟨i, hi, hz, hsz, _⟩ := hB.info
  cases s with
  | none =>
    obtain rfl : v = .slice none 0 0 := hv
    refine ⟨goInt 0, fun ρ o x y ho hx hy => ?_⟩
    have := run_copy_none (P := P) w t t o.type e (some ⟨b, 0, none⟩) none 16 16 0 0 hB.sl (by simp [hi, hsz]) rfl
    show _ = Result.ok _ (w.setRow b (List.replicate 16 (Value.int .u8 0)).toArray)
    rw [setRow_same hb]
    simp [execOp, ho, resolve, invoke, builtin, hx, hy, this]
  | some l =>
    obtain ⟨b2, o2, n, c, rfl, _, _, hl, _, hc⟩ := hv
    subst hl
    have hl16 := hs l rfl
    have hcell : ∀ j, j < 16 → w.cell? ⟨b, 0 + j, none⟩ = some (.int .u8 0) := by
      intro j hj
      refine cell_blk hb ?_
      show (List.replicate 16 (Value.int .u8 0))[0 + j]? = _
      rw [Nat.zero_add, List.getElem?_replicate, if_pos hj]
    refine ⟨goInt (l.map bv).length, fun ρ o x y ho hx hy => ?_⟩
    have := run_copy_cells (P := P) w t t o.type e b 0 16 16 ⟨b2, o2, none⟩ l.length c (l.map bv) hB.sl (by simp [hi, hsz]) (by simp [hl16])
      (fun j v hj => by rw [List.getElem?_map, Option.map_eq_some_iff] at hj; obtain ⟨z, hz1, rfl⟩ := hj; rw [add_addr]; exact hc j z hz1)
      (fun j hj => by rw [hcell j (by simpa [hl16] using hj)]; rfl) (fun j _ => by simp [World.frozen?, hb]) (fun v hv => by obtain ⟨z, _, rfl⟩ := List.mem_map.1 hv; rfl)
    have hrow := setCells_row (b := b) (t := tu) (z := (0, 0)) (l.map bv) (List.replicate 16 (Value.int .u8 0)) [] [] w (by simpa using hb) (by simp [hl16])
    simp only [List.length_nil, List.nil_append, List.append_nil] at hrow
    simp only [execOp, ho, resolve, invoke, builtin, List.map_toArray, List.map_cons, List.map_nil, hx, hy, Sem.run_bind, Sem.run_pure, Result.andThen_ok, this, hrow]
    rfl

/-! ## a region whose order is drawn, order by order -/
section
variable {P : Program} {Q : Exit → Act → World → Prop} {nT : Nat} {σ : Sv} {k : List TD} {w : World} {all : List Oper} {ty : TypeId} {ps : String} {af : Array Edge} {d : Nat} {x y z : Operand} {t t' : TypeId}
def wkF (P : Program) (Q : Exit → Act → World → Prop) (nT : Nat) (all : List Oper) (σ : Sv) (k : List TD) (n : Nat) (listed : Array Bool) (w : World) : Prop :=
  ∀ a, Knows nT σ a → wpAnyH P .any all.toArray (Exit.then (wpT P Q k) Q) (fun _ => True) n listed a w
def wfO (P : Program) (Q : Exit → Act → World → Prop) (nT : Nat) (all : List Oper) (σ : Sv) (k : List TD) (n : Nat) (listed : Array Bool) (i : Nat) (w : World) : Prop :=
  ∀ a, Knows nT σ a → wpOp P all.toArray (Exit.then (wpT P Q k) Q) i (fun a' w' => True ∧ wpAnyH P .any all.toArray (Exit.then (wpT P Q k) Q) (fun _ => True) n (listed.setIfInBounds i true) a' w') a w
theorem wk_drawF {id n : Nat} (hm : P.follows .mixedOrders = true) (hn : Nat.beq all.length n = true) (h : ∀ w1 : World, w1.heap = w.heap → Below w.heap.size w w1 → wkF P Q nT all σ k n (Array.replicate n false) w1) : wk P Q nT σ (.code (.region id all.toArray true) :: k) w := by
  intro a ha
  have hn := Nat.eq_of_beq_eq_true hn
  subst hn
  refine wp_region_held (S := fun _ => True) hm ?_
  have := h { w with drawn := w.drawn + 1 } rfl ⟨rfl, rfl, rfl, Nat.le_refl _, fun _ _ => rfl⟩ a ha
  simpa using this
theorem wf_one {n i : Nat} {listed : Array Bool} (hr : (Region.ready .any all.toArray listed == [i]) = true) (h : wfO P Q nT all σ k n listed i w) : wkF P Q nT all σ k (n + 1) listed w := by
  intro a ha
  refine wpAnyH_all (rs := [i]) (by simpa using hr) (by simp) ?_
  intro j hj
  obtain rfl := List.mem_singleton.1 hj
  exact h a ha
theorem wf_two {n i j : Nat} {listed : Array Bool} (hr : (Region.ready .any all.toArray listed == [i, j]) = true) (h : wfO P Q nT all σ k n listed i w) (h' : wfO P Q nT all σ k n listed j w) : wkF P Q nT all σ k (n + 1) listed w := by
  intro a ha
  refine wpAnyH_all (rs := [i, j]) (by simpa using hr) (by simp) ?_
  intro q hq
  simp only [List.mem_cons, List.not_mem_nil, or_false] at hq
  rcases hq with rfl | rfl
  · exact h a ha
  · exact h' a ha
theorem wf_done {listed : Array Bool} (hr : (Region.ready .any all.toArray listed).isEmpty = true) (h : wk P Q nT σ k w) : wkF P Q nT all σ k 0 listed w :=
  fun a ha => ⟨by simpa using hr, h a ha⟩
theorem wfo_val {n i : Nat} {listed : Array Bool} {op : Op} {v : Value} {w' : World} (hi : all[i]? = some ⟨some d, op, ty, ps, af, none⟩) (hr : ∀ a, Knows nT σ a → (execOp a.eval ⟨some d, op, ty, ps, af, none⟩).run P w = .ok (.value v) w') (hd : Nat.blt d nT = true)
    (h : wkF P Q nT all ((d, v) :: σ) k n (listed.setIfInBounds i true) w') : wfO P Q nT all σ k n listed i w := by
  intro a ha
  unfold wpOp
  have h1 : all.toArray[i]? = some (⟨some d, op, ty, ps, af, none⟩ : Oper) := by simpa using hi
  simp only [h1]
  rw [if_pos (show Region.wanted (⟨some d, op, ty, ps, af, none⟩ : Oper) (yielded all.toArray a.tmps) = true from rfl)]
  refine .inl ?_
  unfold Oper.wp
  rw [hr a ha]
  exact ⟨trivial, h _ (ha.put hd v)⟩
theorem wfo_call {n i : Nat} {listed : Array Bool} {f : FuncId} {args : List Operand} {ts : Array TypeId} {vs : List Value} (hi : all[i]? = some ⟨some d, .call ⟨.value (.func f), args.toArray, ts⟩, ty, ps, af, none⟩) (hf : Callable P f) (hv : args.map (evs σ) = vs.map some) (hd : Nat.blt d nT = true)
    (h : Calls P f vs.toArray w fun e w' => ∃ v, e = .returned v ∧ wkF P Q nT all ((d, v) :: σ) k n (listed.setIfInBounds i true) w') : wfO P Q nT all σ k n listed i w := by
  intro a ha
  unfold wpOp
  have h1 : all.toArray[i]? = some (⟨some d, .call ⟨.value (.func f), args.toArray, ts⟩, ty, ps, af, none⟩ : Oper) := by simpa using hi
  simp only [h1]
  rw [if_pos (show Region.wanted (⟨some d, .call ⟨.value (.func f), args.toArray, ts⟩, ty, ps, af, none⟩ : Oper) (yielded all.toArray a.tmps) = true from rfl)]
  refine .inl ?_
  unfold Oper.wp
  rw [run_callf hf a.eval rfl _ _ _ rfl w]
  have hm : args.toArray.map a.eval = vs.toArray := by
    rw [List.map_toArray]
    congr 1
    have key : ∀ (args : List Operand) (vs : List Value), args.map (evs σ) = vs.map some → args.map a.eval = vs := by
      intro args
      induction args with
      | nil => intro vs h; cases vs with
        | nil => rfl
        | cons _ _ => simp at h
      | cons x r ih => intro vs h; cases vs with
        | nil => simp at h
        | cons v vs =>
          simp only [List.map_cons, List.cons.injEq] at h
          rw [List.map_cons, ha.ev h.1, ih vs h.2]
    exact key args vs hv
  simp only [Oper.upon]
  rw [hm]
  refine h.mono ?_
  rintro e w' ⟨v, rfl, hw⟩
  exact ⟨trivial, hw _ (ha.put hd v)⟩
theorem wfo_move {n i : Nat} {listed : Array Bool} {v : Value} (hi : all[i]? = some ⟨some d, .move x, ty, ps, af, none⟩) (hx : evs σ x = some v) (hd : Nat.blt d nT = true) (h : wkF P Q nT all ((d, v) :: σ) k n (listed.setIfInBounds i true) w) : wfO P Q nT all σ k n listed i w :=
  wfo_val hi (fun _ ha => by rw [run_move _ _ rfl, ha.ev hx]) hd h
end
end Go.Proofs.Eng
