/-
  Ranging over a map of tags; the keys collected; a function value called; a tag looked up.
-/
import Derived.Test.YtbcfmhgcpijfnaaDoorTagMap
import Derived.Maps.RangeRun
set_option linter.unusedVariables false
set_option linter.unusedSimpArgs false
namespace Go.Proofs.Eng
open Go Go.RowKit Go.MapKept
open Go.ChangeMaps (setBlock)
attribute [local semireducible] wk wkD

/-- A number as a value of kind uint32. -/
def kv (n : Nat) : Value := .int .u32 (n : Int)
theorem left_all (es : Array MapEntry) : (leftOf es #[]).toList = es.toList := by
  unfold leftOf
  simp
theorem left_push (es : Array MapEntry) (seen : Array Nat) (b : Nat) : (leftOf es (seen.push b)).toList = (leftOf es seen).toList.filter (fun x => x.born != b) := by
  unfold leftOf
  simp only [Array.toList_filter, List.filter_filter]
  congr 1
  funext x
  by_cases h : x.born = b <;> simp [h]
theorem left_born {es : Array MapEntry} {cl : Nat} (h : Stamped es cl) (seen : Array Nat) : ((leftOf es seen).toList.map (·.born)).Nodup := by
  unfold leftOf
  rw [Array.toList_filter]
  exact List.Sublist.nodup (List.Sublist.map _ List.filter_sublist) h.2.1
theorem perm_take {L : List MapEntry} (hn : (L.map (·.born)).Nodup) {e : MapEntry} (he : e ∈ L) : L.Perm (e :: L.filter (fun x => x.born != e.born)) := by
  induction L with
  | nil => cases he
  | cons x r ih =>
    rw [List.map_cons, List.nodup_cons] at hn
    cases he with
    | head =>
      have h1 : (e.born != e.born) = false := by simp
      rw [List.filter_cons, h1]
      have h2 : r.filter (fun y => y.born != e.born) = r := by
        rw [List.filter_eq_self]
        intro y hy
        simp only [bne_iff_ne, ne_eq]
        intro hb
        exact hn.1 (List.mem_map.2 ⟨y, hy, hb⟩)
      rw [h2]
      exact List.Perm.refl _
    | tail _ he =>
      have hne : (x.born != e.born) = true := by
        simp only [bne_iff_ne, ne_eq]
        intro hb
        exact hn.1 (List.mem_map.2 ⟨e, he, hb.symm⟩)
      rw [List.filter_cons, hne]
      exact ((ih hn.2 he).cons x).trans (List.Perm.swap _ _ _)
theorem TagsRep.keys {w : World} {X : Nat → Prop} {ents : Array MapEntry} {l : List (Nat × List UInt8)} (h : TagsRep w X ents l) : (ents.toList.map (·.key)).Perm (l.map fun t => kv t.1) := by
  obtain ⟨m, h1, h2, h3⟩ := h
  have e : ents.toList.map (·.key) = m.map fun t => kv t.1 := by
    apply List.ext_getElem?
    intro i
    rw [List.getElem?_map, List.getElem?_map]
    cases he : ents.toList[i]? with
    | none =>
      have : m[i]? = none := by
        rw [List.getElem?_eq_none_iff] at he ⊢
        rw [h1]
        simpa using he
      rw [this]
      rfl
    | some x =>
      obtain ⟨k, bs, a1, a2, _⟩ := h3 i x (by simpa using he)
      rw [a1]
      simp [a2, kv]
  rw [e]
  exact h2.map _
/-- A tag is looked up. -/
theorem TagsRep.find {P : Program} {w : World} {X : Nat → Prop} {ents : Array MapEntry} {l : List (Nat × List UInt8)} (h : TagsRep w X ents l) (hs : l.Pairwise (fun a b => a.1 < b.1)) {kt : TypeId} (hk : P.underlying kt = some (.int .u32)) {k : Nat} {bs : List UInt8} (hm : (k, bs) ∈ l) :
    ∃ i v, (Instr.findKey kt (kv k) ents.toList).run P w = .ok (some (i, v)) w ∧ BytesRep0 w X v bs := by
  obtain ⟨m, h1, h2, h3⟩ := h
  have hks : ∀ e ∈ ents.toList, IsKey (.int .u32) e.key := by
    intro e he
    obtain ⟨i, hi⟩ := List.mem_iff_getElem?.1 he
    obtain ⟨kk, b2, _, a2, _⟩ := h3 i e (by simpa using hi)
    rw [a2]
    simp [IsKey]
  have hm' : (k, bs) ∈ m := h2.mem_iff.2 hm
  obtain ⟨j, hj⟩ := List.mem_iff_getElem?.1 hm'
  have hjl : j < ents.size := by rw [← h1]; exact (List.getElem?_eq_some_iff.1 hj).1
  obtain ⟨kk, b2, a1, a2, a3⟩ := h3 j _ (Array.getElem?_eq_getElem hjl)
  rw [hj] at a1
  cases a1
  rcases findNow_spec (d := .int .u32) (k := kv k) (by simp [IsKey, kv]) ents.toList 0 hks with ⟨_, b3⟩ | ⟨q, e, b3, b4, b5⟩
  · exact absurd a2 (b3 _ (Array.getElem_mem_toList hjl))
  · refine ⟨0 + q, e.val, run_findKey hk b3, ?_⟩
    obtain ⟨k3, bs3, c1, c2, c3⟩ := h3 q e (by simpa using b4)
    rw [c2] at b5
    simp only [kv, Value.int.injEq] at b5
    have hkk : k3 = k := by omega
    subst hkk
    have hm3 : (k3, bs3) ∈ l := h2.mem_iff.1 (List.mem_of_getElem? c1)
    have key : ∀ {l : List (Nat × List UInt8)}, l.Pairwise (fun a b => a.1 < b.1) → (k3, bs) ∈ l → (k3, bs3) ∈ l → bs = bs3 := by
      intro l
      induction l with
      | nil => intro _ h _; cases h
      | cons t r ih =>
        intro hp u v
        rw [List.pairwise_cons] at hp
        cases u with
        | head =>
          cases v with
          | head => rfl
          | tail _ v => have := hp.1 _ v; simp only at this; omega
        | tail _ u =>
          cases v with
          | head => have := hp.1 _ u; simp only at this; omega
          | tail _ v => exact ih hp.2 u v
    rw [key hs hm hm3]
    exact c3
section
variable {P : Program} {Q : Exit → Act → World → Prop} {nT : Nat} {σ : Sv} {k : List TD} {w : World} {all : Array Oper} {l : List Oper} {ty : TypeId} {ps : String} {af : Array Edge} {d : Nat} {x y z : Operand} {t t' : TypeId}
theorem wk_range {kt et bm : Nat} {es : Array MapEntry} {cl : Nat} (hx : evs σ x = some (.map (some bm))) (ht : P.underlying t = some (.map kt et)) (hb : w.heap[bm]? = some (.map es cl)) (hd : Nat.blt d nT = true)
    (h : wk P Q nT ((d, .pointer (some ⟨w.heap.size, 0, none⟩)) :: σ) (.ops all l :: k) (w.alloc (.mapIter (some bm) cl #[] cl))) : wk P Q nT σ (.ops all (⟨some d, .range t x, ty, ps, af, none⟩ :: l) :: k) w := by
  refine wk_val (fun a ha => ?_) hd h
  have hx' := ha.ev hx
  have h1 : (Instr.range t (.map (some bm))).run P w = .ok (.pointer (some ⟨w.heap.size, 0, none⟩)) (w.alloc (.mapIter (some bm) cl #[] cl)) := by
    simp [Instr.range, run_underlying ht, Go.MapKept.run_getObj_map hb]
  simp [execOp, hx', h1]
theorem wk_nextMap {r bm since c0 : Nat} {seen : Array Nat} {es : Array MapEntry} {clock : Nat} (hx : evs σ x = some (.pointer (some ⟨r, 0, none⟩))) (hr : w.heap[r]? = some (.mapIter (some bm) since seen c0)) (hb : w.heap[bm]? = some (.map es clock))
    (hold : ∀ x ∈ es.toList, x.born < since) (hsc : since ≤ c0) (hd : Nat.blt d nT = true) (h0 : (leftOf es seen).toList = [] → wk P Q nT ((d, .tuple #[.bool false]) :: σ) (.ops all l :: k) w)
    (h1 : ∀ e ∈ (leftOf es seen).toList, ∀ w1 : World, w1.heap = w.heap → Below w.heap.size w w1 → wk P Q nT ((d, .tuple #[.bool true, e.key, e.val]) :: σ) (.ops all l :: k) (setBlock w1 r (.mapIter (some bm) since (seen.push e.born) clock))) :
    wk P Q nT σ (.ops all (⟨some d, .next x false, ty, ps, af, none⟩ :: l) :: k) w := by
  intro a ha
  have hx' := ha.ev hx
  rcases run_next_at (P := P) w ty r bm since c0 seen es clock hr hb hold hsc with ⟨hz, hrun⟩ | ⟨e, he, w1, hw1, hrun⟩
  · refine wpT_value (v := .tuple #[.bool false]) (w' := w) rfl ?_ (h0 ?_ _ (ha.put hd _))
    · simp [execOp, hx', hrun]
    · exact List.length_eq_zero_iff.1 (by simpa using hz)
  · refine wpT_value (v := .tuple #[.bool true, e.key, e.val]) rfl ?_ (h1 e he w1 ?_ ?_ _ (ha.put hd _))
    · simp [execOp, hx', hrun]
    · rcases hw1 with rfl | rfl <;> rfl
    · rcases hw1 with rfl | rfl
      · exact Below.refl _ _
      · exact ⟨rfl, rfl, rfl, Nat.le_refl _, fun _ _ => rfl⟩
theorem wk_entry {r bm since : Nat} {seen : Array Nat} {es : Array MapEntry} {clock : Nat} {e : MapEntry} (hx : evs σ x = some (.pointer (some ⟨r, 0, none⟩))) (hr : w.heap[r]? = some (.mapIter (some bm) since (seen.push e.born) clock)) (hb : w.heap[bm]? = some (.map es clock))
    (he : e ∈ es.toList) (hn : (es.toList.map (·.born)).Nodup) (hd : Nat.blt d nT = true) (h : wk P Q nT ((d, .tuple #[e.key, e.val]) :: σ) (.ops all l :: k) w) : wk P Q nT σ (.ops all (⟨some d, .entry x, ty, ps, af, none⟩ :: l) :: k) w :=
  wk_val (fun a ha => by have h1 := run_entry_at (P := P) w r bm since seen es clock e hr hb he hn; simp [execOp, ha.ev hx, h1]) hd h
theorem wk_lookup {kt et r q : Nat} {X : Nat → Prop} {ents : Array MapEntry} {cl : Nat} {tl : List (Nat × List UInt8)} {bs : List UInt8} (hx : evs σ x = some (.map (some r))) (hy : evs σ y = some (kv q)) (ht : P.underlying t = some (.map kt et)) (hk : P.underlying kt = some (.int .u32))
    (hb : w.heap[r]? = some (.map ents cl)) (hT : TagsRep w X ents tl) (hs : tl.Pairwise (fun a b => a.1 < b.1)) (hm : (q, bs) ∈ tl) (hd : Nat.blt d nT = true) (h : ∀ v, BytesRep0 w X v bs → wk P Q nT ((d, v) :: σ) (.ops all l :: k) w) :
    wk P Q nT σ (.ops all (⟨some d, .lookup t x y false, ty, ps, af, none⟩ :: l) :: k) w := by
  obtain ⟨i, v, h1, h2⟩ := hT.find (P := P) hs hk hm
  refine wk_val (v := v) (w' := w) (fun a ha => ?_) hd (h v h2)
  have h3 := run_checkKey (P := P) (w := w) hk (show IsKey (.int .u32) (kv q) by simp [IsKey, kv]) ents.isEmpty 9999
  simp [execOp, ha.ev hx, ha.ev hy, Instr.lookup, run_underlying ht, Go.MapKept.run_getObj_map hb, h1, h3, Result.andThen]
/-- A call of a function value, bound to what it captured. -/
theorem wk_callc {f : FuncId} {g : Operand} {args : List Operand} {ts : Array TypeId} {cap : Array Value} {vs : List Value} (hf : Callable P f) (hg : evs σ g = some (.func (.func f) #[] cap)) (hv : args.map (evs σ) = vs.map some) (hd : Nat.blt d nT = true)
    (h : Calls P f (vs.toArray ++ cap) w fun e w' => ∃ v, e = .returned v ∧ wk P Q nT ((d, v) :: σ) (.ops all l :: k) w') :
    wk P Q nT σ (.ops all (⟨some d, .call ⟨.value g, args.toArray, ts⟩, ty, ps, af, none⟩ :: l) :: k) w := by
  intro a ha
  have hm : args.toArray.map a.eval = vs.toArray := by
    rw [List.map_toArray]
    congr 1
    have key : ∀ (args : List Operand) (vs : List Value), args.map (evs σ) = vs.map some → args.map a.eval = vs := by
      intro args
      induction args with
      | nil => intro vs h; cases vs with
        | nil => rfl
        | cons _ _ => simp at h
      | cons x r ih => intro vs h; cases vs with
        | nil => simp at h
        | cons v vs =>
          simp only [List.map_cons, List.cons.injEq] at h
          rw [List.map_cons, ha.ev h.1, ih vs h.2]
    exact key args vs hv
  have hrun : (execOp a.eval ⟨some d, .call ⟨.value g, args.toArray, ts⟩, ty, ps, af, none⟩).run P w = .ok (.enter f (vs.toArray ++ cap)) w := by
    unfold execOp
    simp only [resolve, ha.ev hg, Deferred.ofValue, pure_bind, invoke, Array.empty_append, hm]
    exact hf _ w
  refine wpT_enter rfl hrun ?_
  refine h.mono ?_
  rintro e w' ⟨v, rfl, hw⟩
  exact ⟨v, rfl, hw _ (ha.put hd v)⟩
end
theorem setBlock_at {w : World} {r : Nat} {o o' : Obj} (hr : w.heap[r]? = some o) : (setBlock w r o').heap[r]? = some o' ∧ ∀ k, k ≠ r → (setBlock w r o').heap[k]? = w.heap[k]? := heap_set hr
end Go.Proofs.Eng
