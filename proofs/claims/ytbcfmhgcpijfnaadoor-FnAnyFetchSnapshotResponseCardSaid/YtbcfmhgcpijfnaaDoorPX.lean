/-
  Several texts in one: RX1, RX2, RX3, RX4, RX5, RX6, RX6P, RX7, RX8, RX9, RX10.
-/
import Derived.Test.YtbcfmhgcpijfnaaDoorRRep
import Derived.Test.YtbcfmhgcpijfnaaDoorEngG
import Derived.Deep.MidRow
import Derived.Laws.BitsLemmas
set_option linter.unusedVariables false
set_option linter.unusedSimpArgs false
/-! Stores into the middle of a block; what a run of reading leaves of memory; functions that set a struct's defaults. -/
namespace Go.Proofs.Eng
open Go Go.RowKit
attribute [local semireducible] wk wkD

theorem setRow_same {w : World} {b : Nat} {cur : Array Value} {t : TypeId} {z : Nat × Nat} (h : w.heap[b]? = some (.cells cur t z)) : w.setRow b cur = w := by
  have hlt : b < w.heap.size := (Array.getElem?_eq_some_iff.1 h).1
  have hv : w.heap[b] = .cells cur t z := (Array.getElem?_eq_some_iff.1 h).2
  cases w with
  | mk =>
    unfold World.setRow
    congr 1
    apply Array.ext
    · simp
    · intro i h1 h2
      rw [Array.getElem_modify]
      split
      · rename_i e
        subst e
        simp only at hv
        rw [hv]
      · rfl
theorem setCells_row {b : Nat} {t : TypeId} {z : Nat × Nat} : ∀ (vs old A C : List Value) (w : World), w.heap[b]? = some (.cells (A ++ (old ++ C)).toArray t z) → old.length = vs.length →
    w.setCells b A.length vs = w.setRow b (A ++ (vs ++ C)).toArray := by
  intro vs
  induction vs with
  | nil =>
    intro old A C w h hl
    obtain rfl : old = [] := List.length_eq_zero_iff.1 hl
    exact (setRow_same h).symm
  | cons v r ih =>
    intro old A C w h hl
    cases old with
    | nil => simp at hl
    | cons u old =>
      rw [World.setCells, setCell_eq_setRow w b A.length _ t z v h]
      have e : ((A ++ (u :: old ++ C)).toArray.setIfInBounds A.length v) = ((A ++ [v]) ++ (old ++ C)).toArray := by
        apply Array.toList_inj.1
        simp
      rw [e]
      have h2 := setRow_heap w b _ ((A ++ [v]) ++ (old ++ C)).toArray t z h
      have := ih old (A ++ [v]) C _ h2 (by simpa using hl)
      rw [List.length_append, List.length_singleton] at this
      rw [this, setRow_setRow]
      congr 2
      simp
theorem cell_row {w : World} {b : Nat} {t : TypeId} {z : Nat × Nat} {A B C : List Value} (h : w.heap[b]? = some (.cells (A ++ (B ++ C)).toArray t z)) {k : Nat} {v : Value} (hk : B[k]? = some v) : w.cell? ⟨b, A.length + k, none⟩ = some v := by
  rw [cell_of_row w b (A.length + k) _ t z h]
  have hlt := (List.getElem?_eq_some_iff.1 hk).1
  rw [List.getElem?_toArray, List.getElem?_append_right (by omega), Nat.add_sub_cancel_left, List.getElem?_append_left hlt]
  exact hk
/-- A value goes into cells of the middle of a block. -/
theorem run_storeMid {P : Program} {ρ : Operand → Value} {w : World} {o : Oper} {x y : Operand} {t u : TypeId} {i : TypeInfo} {b : Nat} {v : Value} {vs old A C : List Value} (ho : o.op = .store t x y) (hx : ρ x = .pointer (some ⟨b, A.length, none⟩)) (hy : ρ y = v)
    (hv : v.cells = vs.toArray) (hb : w.heap[b]? = some (.cells (A ++ (old ++ C)).toArray u (0, 0))) (hl : old.length = vs.length) (hi : P.info? t = some i) (hn : i.size = vs.length) (h1 : ∀ v ∈ vs, v.oneCell' = true) :
    (execOp ρ o).run P w = .ok .skip (w.setRow b (A ++ (vs ++ C)).toArray) := by
  have hc : ∀ j, j < vs.length → ∃ v, w.cell? ⟨b, A.length + j, none⟩ = some v := fun j hj => ⟨old[j]'(by omega), cell_row hb (List.getElem?_eq_getElem _)⟩
  have := run_storeCells_cells (P := P) b A.length vs 0 w (fun j hj => by obtain ⟨v, h⟩ := hc j hj; simp [h]) (fun j hj => by simp [World.frozen?, hb]) h1
  have hst : (storeVar t ⟨b, A.length, none⟩ v).run P w = .ok () (w.setRow b (A ++ (vs ++ C)).toArray) := by
    simp only [Nat.add_zero] at this
    rw [setCells_row vs old A C w hb hl] at this
    simp [storeVar, sizeOf, typeInfo, hi, hv, hn, this]
  simp [execOp, ho, hx, hy, Instr.storeAt, Instr.sureAddr, hst]

/-- What a run of reading leaves of memory: the reader's block and the struct's own are turned, and no other. -/
structure Turn (w w' : World) (rb bl : Nat) : Prop where
  os : w'.os = w.os
  tape : w'.tape = w.tape
  output : w'.output = w.output
  size : w.heap.size ≤ w'.heap.size
  block : ∀ k, k < w.heap.size → k ≠ rb → k ≠ bl → w'.heap[k]? = w.heap[k]?
theorem Turn.refl (w : World) (rb bl : Nat) : Turn w w rb bl := ⟨rfl, rfl, rfl, Nat.le_refl _, fun _ _ _ _ => rfl⟩
theorem Turn.trans {w w1 w2 : World} {rb bl : Nat} (h : Turn w w1 rb bl) (h' : Turn w1 w2 rb bl) : Turn w w2 rb bl :=
  ⟨h'.os.trans h.os, h'.tape.trans h.tape, h'.output.trans h.output, Nat.le_trans h.size h'.size, fun k hk h1 h2 => (h'.block k (Nat.lt_of_lt_of_le hk h.size) h1 h2).trans (h.block k hk h1 h2)⟩
theorem Turn.of_grown {w w' : World} {rb bl : Nat} (h : w.grownBy w' (some rb)) : Turn w w' rb bl :=
  ⟨h.os, h.tape, h.output, h.size, fun k hk h1 _ => h.block k hk (by intro e; cases e; exact h1 rfl)⟩
theorem Turn.of_grownL {w w' : World} {rb bl : Nat} (h : w.grownBy w' (some bl)) : Turn w w' rb bl :=
  ⟨h.os, h.tape, h.output, h.size, fun k hk _ h2 => h.block k hk (by intro e; cases e; exact h2 rfl)⟩
theorem Turn.setRow (w : World) (rb bl : Nat) (cs : Array Value) : Turn w (w.setRow bl cs) rb bl :=
  ⟨rfl, rfl, rfl, by simp [World.setRow], fun k _ _ h => setRow_other w bl k cs h⟩
theorem Turn.below {w w' : World} {rb bl base : Nat} (h : Turn w w' rb bl) (h1 : base ≤ rb) (h2 : base ≤ bl) (hb : base ≤ w.heap.size) : Below base w w' :=
  ⟨h.os, h.tape, h.output, h.size, fun k hk => h.block k (by omega) (by omega) (by omega)⟩
theorem Turn.of_below {w w' : World} {rb bl : Nat} (h : Below w.heap.size w w') : Turn w w' rb bl := ⟨h.os, h.tape, h.output, h.size, fun k hk _ _ => h.block k hk⟩
/-- A block that is made behind the run's beginning. -/
theorem Turn.fresh {w w1 w2 : World} {rb bl b : Nat} (h : Turn w w1 rb bl) (h' : Turn w1 w2 rb b) (hb : w.heap.size ≤ b) : Turn w w2 rb bl :=
  ⟨h'.os.trans h.os, h'.tape.trans h.tape, h'.output.trans h.output, Nat.le_trans h.size h'.size, fun k hk h1 h2 => (h'.block k (Nat.lt_of_lt_of_le hk h.size) h1 (by omega)).trans (h.block k hk h1 h2)⟩
theorem Turn.keeps {X : Nat → Prop} {w w' : World} {rb bl : Nat} (h : Turn w w' rb bl) (h1 : X rb) (h2 : X bl) : Keeps X w w' :=
  ⟨h.size, fun b hb hX => h.block b hb (fun e => hX (e ▸ h1)) (fun e => hX (e ▸ h2))⟩

/-! ## defaults -/
inductive AD where
  | cst (v : Value)
  | ptr (off : Nat)
def ad (σ : List (Nat × AD)) : Operand → Option AD
  | .tmp t => look σ t
  | .const v => some (.cst v)
  | _ => none
def oneB (v : Value) : Bool := v.oneCell' && (match v with | .agg _ => false | .tuple _ => false | _ => true)
def popD (T : Tab) (σ : List (Nat × AD)) : Op → Option AD
  | .move x => ad σ x
  | .assign x => ad σ x
  | .nilCheck x => match ad σ x with
    | some (.ptr o) => some (.ptr o)
    | _ => none
  | .fieldAddr s x f => match ad σ x, T.off s f with
    | some (.ptr o), some fo => some (.ptr (o + fo))
    | _, _ => none
  | _ => none
abbrev Sets := List (Nat × Value)
def dput (σ : List (Nat × AD)) : Option Nat → AD → List (Nat × AD)
  | some d, x => (d, x) :: σ.filter fun p => !Nat.beq p.1 d
  | none, _ => σ
/-- The stores of a function that sets defaults: where, and what. -/
def execD (T : Tab) (dt : List (Nat × (Nat × Sets))) (nT n : Nat) : Nat → List (Nat × AD) → List TD → Option Sets
  | 0, _, _ => none
  | _ + 1, _, [] => some []
  | m + 1, σ, .ops _ [] :: k => execD T dt nT n m σ k
  | m + 1, σ, .ops all (⟨d, op, _, _, _, none⟩ :: l) :: k =>
    if dlt d nT then match popD T σ op with
      | some x => execD T dt nT n m (dput σ d x) (.ops all l :: k)
      | none => match op with
        | .store t x y => match d, ad σ x, ad σ y, look T.sizes t with
          | none, some (.ptr o), some (.cst v), some (1, false) => if oneB v && Nat.blt o n then match execD T dt nT n m σ (.ops all l :: k) with
              | some r => some ((o, v) :: r)
              | none => none
            else none
          | _, _, _, _ => none
        | .call ⟨.value (.func f), args, _⟩ => match args.toList, d, look dt f with
          | [x], some d, some (n', ss) => match ad σ x with
            | some (.ptr o) => if Nat.ble (o + n') n then match execD T dt nT n m (dput σ (some d) (.cst (.tuple #[]))) (.ops all l :: k) with
                | some r => some (ss.map (fun p => (o + p.1, p.2)) ++ r)
                | none => none
              else none
            | _ => none
          | _, _, _ => none
        | _ => none
    else none
  | m + 1, σ, .code .skip :: k => execD T dt nT n m σ k
  | m + 1, σ, .code (.seq x y) :: k => execD T dt nT n m σ (.code x :: .code y :: k)
  | m + 1, σ, .code (.region _ ops false) :: k => execD T dt nT n m σ (.ops ops ops.toList :: k)
  | _ + 1, _, _ :: _ => none

def setS (cur : Array Value) (o : Nat) : Sets → Array Value
  | [] => cur
  | p :: r => setS (cur.setIfInBounds (o + p.1) p.2) o r
theorem setS_size (o : Nat) : ∀ (ss : Sets) (cur : Array Value), (setS cur o ss).size = cur.size := by
  intro ss
  induction ss with
  | nil => intro cur; rfl
  | cons p r ih => intro cur; simp only [setS]; rw [ih]; simp
theorem setS_append (o : Nat) : ∀ (a b : Sets) (cur : Array Value), setS cur o (a ++ b) = setS (setS cur o a) o b := by
  intro a
  induction a with
  | nil => intro b cur; rfl
  | cons p r ih => intro b cur; simp only [List.cons_append, setS]; exact ih b _
theorem setS_shift (o k : Nat) : ∀ (a : Sets) (cur : Array Value), setS cur o (a.map (fun p => (k + p.1, p.2))) = setS cur (o + k) a := by
  intro a
  induction a with
  | nil => intro cur; rfl
  | cons p r ih => intro cur; simp only [List.map_cons, setS]; rw [ih, Nat.add_assoc]
/-- A function that sets the defaults 'ss' in n cells. -/
def DContract (P : Program) (f n : Nat) (ss : Sets) : Prop :=
  ∀ (w : World) (b o : Nat) (cur : Array Value) (t : TypeId), w.heap[b]? = some (.cells cur t (0, 0)) → o + n ≤ cur.size →
    Calls P f #[.pointer (some ⟨b, o, none⟩)] w fun e w' => e = .returned (.tuple #[]) ∧ w'.heap[b]? = some (.cells (setS cur o ss) t (0, 0)) ∧ w.grownBy w' (some b)
theorem grown_refl (w : World) (b : Nat) : w.grownBy w (some b) := ⟨rfl, rfl, rfl, Nat.le_refl _, fun _ _ _ => rfl⟩
theorem grown_row (w : World) (b : Nat) (cs : Array Value) : w.grownBy (w.setRow b cs) (some b) :=
  ⟨rfl, rfl, rfl, by simp [World.setRow], fun k _ hk => setRow_other w b k cs (fun e => hk (by rw [e]))⟩
theorem grown_trans {w w1 w2 : World} {b : Nat} (h : w.grownBy w1 (some b)) (h' : w1.grownBy w2 (some b)) : w.grownBy w2 (some b) :=
  ⟨h'.os.trans h.os, h'.tape.trans h.tape, h'.output.trans h.output, Nat.le_trans h.size h'.size, fun k hk hne => (h'.block k (Nat.lt_of_lt_of_le hk h.size) hne).trans (h.block k hk hne)⟩
def DenD (b o : Nat) : AD → Value → Prop
  | .cst u, v => v = u
  | .ptr off, v => v = .pointer (some ⟨b, o + off, none⟩)
def GamD (b o : Nat) (σ : List (Nat × AD)) (a : Act) : Prop := ∀ t x, (t, x) ∈ σ → DenD b o x (a.eval (.tmp t))
theorem ad_ok {b o : Nat} {σ : List (Nat × AD)} {a : Act} (hG : GamD b o σ a) {x : Operand} {y : AD} (h : ad σ x = some y) : DenD b o y (a.eval x) := by
  cases x with
  | tmp t => exact hG t y (look_mem h)
  | const v => simp only [ad, Option.some.injEq] at h; subst h; rfl
  | global g => simp [ad] at h
  | func f => simp [ad] at h
theorem GamD.put {b o : Nat} {σ : List (Nat × AD)} {a : Act} (h : GamD b o σ a) {nT : Nat} (hn : a.tmps.size = nT) {d : Option Nat} (hd : dlt d nT = true) {x : AD} {v : Value} (hv : DenD b o x v) : GamD b o (dput σ d x) (a.put d v) := by
  cases d with
  | none => exact h
  | some e =>
    intro t y hy
    have he : e < a.tmps.size := by rw [hn]; simpa [dlt, Nat.blt_eq] using hd
    simp only [dput, List.mem_cons, Prod.mk.injEq, List.mem_filter] at hy
    rcases hy with ⟨rfl, rfl⟩ | ⟨hm, hne⟩
    · rw [eval_put_same _ _ _ he]; exact hv
    · rw [eval_put_other _ _ _ _ (by intro hte; subst hte; simp at hne)]; exact h t y hm
theorem run_fieldAddr_tab {P : Program} {T : Tab} (hT : TabOK P T) {ρ : Operand → Value} {w : World} {o : Oper} {s f fo b p : Nat} {x : Operand} (ho : o.op = .fieldAddr s x f) (hf : T.off s f = some fo) (hx : ρ x = .pointer (some ⟨b, p, none⟩)) :
    (execOp ρ o).run P w = .ok (.value (.pointer (some ⟨b, p + fo, none⟩))) w := by
  simp only [Tab.off] at hf
  split at hf
  · rename_i l hl
    obtain ⟨fs, h1, h2⟩ := hT.structs s l (look_mem hl)
    obtain ⟨fd, i, h3, h4, h5, h6⟩ := h2 f fo hf
    rw [run_fieldAddr _ _ ho hx h1 h3 h5 h6, add_addr, h4]
  · cases hf
theorem popD_ok {P : Program} {T : Tab} (hT : TabOK P T) {b p : Nat} {σ : List (Nat × AD)} {a : Act} (hG : GamD b p σ a) {w : World} (o : Oper) {x : AD} (h : popD T σ o.op = some x) :
    ∃ v, (execOp a.eval o).run P w = .ok (.value v) w ∧ DenD b p x v := by
  generalize hop : o.op = op at h
  cases op with
  | move y => exact ⟨_, run_move _ _ hop, ad_ok hG h⟩
  | assign y => exact ⟨_, run_assign _ _ hop, ad_ok hG h⟩
  | nilCheck y =>
    simp only [popD] at h
    split at h
    · rename_i oo hc
      cases h
      exact ⟨_, run_nilCheck _ _ hop (ad_ok hG hc), rfl⟩
    · cases h
  | fieldAddr s y f =>
    simp only [popD] at h
    split at h
    · rename_i oo fo hc hf
      cases h
      exact ⟨_, run_fieldAddr_tab hT hop hf (ad_ok hG hc), by simp [DenD, Nat.add_assoc]⟩
    · cases h
  | _ => simp [popD] at h
theorem oneB_cells {v : Value} (h : oneB v = true) : v.oneCell' = true ∧ v.cells = #[v] := by
  simp only [oneB, Bool.and_eq_true] at h
  refine ⟨h.1, ?_⟩
  have := h.2
  cases v <;> first | rfl | simp at this
theorem execD_ok {P : Program} {T : Tab} (hT : TabOK P T) {dt : List (Nat × (Nat × Sets))} (hD : ∀ f n ss, (f, (n, ss)) ∈ dt → DContract P f n ss ∧ Callable P f) {nT n b p : Nat} {t : TypeId} {Q : Exit → Act → World → Prop} :
    ∀ (m : Nat) (σ : List (Nat × AD)) (todo : List TD) (ss : Sets), execD T dt nT n m σ todo = some ss →
    ∀ (a : Act) (w : World) (cur : Array Value), GamD b p σ a → a.tmps.size = nT → w.heap[b]? = some (.cells cur t (0, 0)) → p + n ≤ cur.size →
      (∀ a' w', a'.defers = a.defers → w'.heap[b]? = some (.cells (setS cur p ss) t (0, 0)) → w.grownBy w' (some b) → Q .normal a' w') → wpT P Q todo a w := by
  intro m
  induction m with
  | zero => intro σ todo ss h; simp [execD] at h
  | succ m ih =>
    intro σ todo ss h a w cur hG hn hb hs hQ
    cases todo with
    | nil => simp only [execD, Option.some.injEq] at h; subst h; exact hQ a w rfl hb (grown_refl _ _)
    | cons td k =>
      cases td with
      | ops all l =>
        cases l with
        | nil => simp only [execD] at h; exact wpT_ops_nil (ih σ k ss h a w cur hG hn hb hs hQ)
        | cons o l =>
          obtain ⟨d, op, ty, ps, af, g⟩ := o
          cases g with
          | some g => simp [execD] at h
          | none =>
            simp only [execD] at h
            split at h
            · rename_i hd
              split at h
              · rename_i x hx
                obtain ⟨v, hrun, hden⟩ := popD_ok hT hG (w := w) ⟨d, op, ty, ps, af, none⟩ hx
                refine wpT_value rfl hrun ?_
                exact ih _ _ ss h _ w cur (hG.put hn hd hden) (by rw [put_size]; exact hn) hb hs (fun a' w' h1 => hQ a' w' (h1.trans (put_defers _ _ _)))
              · split at h
                · rename_i t1 x y _
                  split at h
                  · rename_i oo v hx hy hsz
                    split at h
                    · rename_i hc
                      simp only [Bool.and_eq_true, Nat.blt_eq] at hc
                      split at h
                      · rename_i r hr
                        cases h
                        obtain ⟨dd, i, h1, h2, h3, h4, h5⟩ := hT.sizes t1 1 false (look_mem hsz)
                        obtain ⟨ho1, ho2⟩ := oneB_cells hc.1
                        have hlt : p + oo < cur.size := by omega
                        have hsp : cur.toList = cur.toList.take (p + oo) ++ ([cur.toList[p + oo]'(by simpa using hlt)] ++ cur.toList.drop (p + oo + 1)) := by
                          rw [List.singleton_append, ← List.drop_eq_getElem_cons (by simpa using hlt), List.take_append_drop]
                        have hln : (cur.toList.take (p + oo)).length = p + oo := by simp; omega
                        have hb' : w.heap[b]? = some (.cells (cur.toList.take (p + oo) ++ ([cur.toList[p + oo]'(by simpa using hlt)] ++ cur.toList.drop (p + oo + 1))).toArray t (0, 0)) := by rw [← hsp]; simpa using hb
                        have hrun := run_storeMid (P := P) (ρ := a.eval) (w := w) (o := ⟨none, .store t1 x y, ty, ps, af, none⟩) (vs := [v]) (A := cur.toList.take (p + oo)) rfl (by rw [hln]; exact ad_ok hG hx) (ad_ok hG hy) ho2 hb' rfl h2 (by simpa using h3)
                          (by intro u hu; simp only [List.mem_singleton] at hu; subst hu; exact ho1)
                        have e : (cur.toList.take (p + oo) ++ ([v] ++ cur.toList.drop (p + oo + 1))).toArray = cur.setIfInBounds (p + oo) v := by
                          apply Array.toList_inj.1
                          rw [Array.toList_setIfInBounds, List.set_eq_take_append_cons_drop, if_pos (by simpa using hlt)]
                          simp
                        rw [e] at hrun
                        refine wpT_unit rfl hrun ?_
                        refine ih _ _ r hr _ _ _ hG hn (setRow_heap w b cur _ t (0, 0) hb) (by simpa using hs) ?_
                        intro a' w' h1 h2 h3
                        exact hQ a' w' h1 h2 (grown_trans (grown_row _ _ _) h3)
                      · cases h
                    · cases h
                  · cases h
                · rename_i f args ts _
                  split at h
                  · rename_i x dd n' ss' hargs hdt
                    split at h
                    · rename_i oo hx
                      split at h
                      · rename_i hle
                        have hle := Nat.le_of_ble_eq_true hle
                        split at h
                        · rename_i r hr
                          cases h
                          obtain ⟨hcon, hcall⟩ := hD f n' ss' (look_mem hdt)
                          obtain rfl : args = #[x] := Array.toList_inj.1 hargs
                          refine wpT_enter rfl (run_callf hcall a.eval rfl _ _ _ rfl w) ?_
                          have hxv : a.eval x = .pointer (some ⟨b, p + oo, none⟩) := ad_ok hG hx
                          simp only [List.map_toArray, List.map_cons, List.map_nil, hxv]
                          refine (hcon w b (p + oo) cur t hb (by omega)).mono ?_
                          rintro e w1 ⟨rfl, hb1, hg1⟩
                          refine ⟨_, rfl, ?_⟩
                          refine ih _ _ r hr _ w1 _ (hG.put (d := some dd) hn hd rfl) (by rw [put_size]; exact hn) hb1 (by rw [setS_size]; exact hs) ?_
                          intro a' w' h1 h2 h3
                          refine hQ a' w' (h1.trans (put_defers _ _ _)) ?_ (grown_trans hg1 h3)
                          rw [setS_append, setS_shift]
                          exact h2
                        · cases h
                      · cases h
                    · cases h
                  · cases h
                · cases h
            · cases h
      | code c =>
        cases c with
        | skip => simp only [execD] at h; exact wpT_skip (ih σ k ss h a w cur hG hn hb hs hQ)
        | seq x y => simp only [execD] at h; exact wpT_seq (ih σ _ ss h a w cur hG hn hb hs hQ)
        | region id ops dr =>
          cases dr with
          | true => simp [execD] at h
          | false => simp only [execD] at h; exact wpT_region (ih σ _ ss h a w cur hG hn hb hs hQ)
        | _ => simp [execD] at h
/-- A function that sets defaults, by the executor. -/
theorem calls_default {P : Program} {T : Tab} (hT : TabOK P T) {dt : List (Nat × (Nat × Sets))} (hD : ∀ f n ss, (f, (n, ss)) ∈ dt → DContract P f n ss ∧ Callable P f) {f n m : Nat} {fn : Func} {c : Code} (hf : P.funcs[f]? = some fn) (hb : fn.body = some c) (hrs : fn.results = #[])
    (h2 : Nat.ble 1 fn.ntmps = true) {ss : Sets} (hx : execD T dt fn.ntmps n m [(0, .ptr 0)] [.code c] = some ss) : DContract P f n ss := by
  intro w b o cur t hh hs
  refine calls_wk (args := [.pointer (some ⟨b, o, none⟩)]) hf hb (by simpa using h2) ?_
  intro a ha
  refine execD_ok hT hD m _ _ ss hx a w cur ?_ ha.1 hh hs ?_
  · intro t x hx
    simp only [List.mem_cons, Prod.mk.injEq, List.not_mem_nil, or_false] at hx
    obtain ⟨rfl, rfl⟩ := hx
    exact ha.2.2 0 _ rfl
  · intro a' w' h1 h3 h4
    exact post_end (results_none hrs _ _ _) (h1.trans ha.2.1) ⟨rfl, h3, h4⟩
end Go.Proofs.Eng
/-! The executor of reading: what it is. -/
namespace Go.Proofs.Eng
open Go Go.RowKit

/-- What is known of a slot. 'ptr j off': the address of cell off of level j's struct; 'rdr': the reader; 'inp': what was read last; 'len': a list's length, read last; 'lz', 'lp': is it 0, is it above 0; 'sl': the list; 'idx': a round's number; 'cpl': what the reader says at its end. -/
inductive AR where
  | cst (v : Value)
  | ptr (j off : Nat)
  | rdr | inp | len | lz | lp | ok | nok | sl | idx | cpl
  | lst (j sz : Nat)
abbrev SR := List (Nat × AR)
/-- What is under way. -/
inductive Md where
  | none
  | inp (ag : Bool) (n : Nat)
  | len (nul : Nat) (okd : Bool)
structure Res where
  off : Nat
  nul : Nat
  d : List CV
  body : RP
  k : RP
def Res.just (k : RP) : Res := ⟨0, 0, [], .nil, k⟩

/-- A piece of code that the executor takes as a whole, with a contract of its own: tags, one of them known. 'rd': the slot of the reader; 'pv': of the struct's pointer. -/
structure HookR where
  code : Code
  rd : Nat
  pv : Nat
  nT : Nat
  rr : Nat
  off : Nat
  w : Nat
  body : RP
  ot : Nat
  kn : List (Nat × Value)
  kv : List (Nat × Value)
structure TabR where
  rf : List (Nat × WPrim)
  rl : List (Nat × Bool)
  fOk : Nat
  fCpl : Nat
  fTags : Nat
  dt : List (Nat × (Nat × Sets))
  els : List (Nat × (List K × List Value))
  hk : List HookR

def avR (σ : SR) : Operand → Option AR
  | .tmp t => look σ t
  | .const v => some (.cst v)
  | _ => none
def stay : AR → Bool
  | .cst _ | .ptr .. | .rdr | .idx | .lst .. => true
  | _ => false
def notSl : AR → Bool
  | .sl => false
  | _ => true
/-- Not of the list whose things are read now. -/
def notLs : AR → Bool
  | .idx | .lst .. => false
  | _ => true
def noSl (σ : SR) : SR := σ.filter fun p => notSl p.2
def onlyStay (σ : SR) : SR := σ.filter fun p => stay p.2
def rput (σ : SR) : Option Nat → AR → SR
  | some d, x => (d, x) :: σ.filter fun p => !Nat.beq p.1 d
  | none, _ => σ
def rdel (σ : SR) : Option Nat → SR
  | some d => σ.filter fun p => !Nat.beq p.1 d
  | none => σ
def gdR (σ : SR) (all : Array Oper) : Option (Nat × Bool) → Option Bool
  | none => some true
  | some (j, want) => match all[j]? with
    | some o => match o.dst with
      | some d => match look σ d with
        | some (.cst (.bool b)) => some (b == want)
        | _ => none
      | none => none
    | none => none
def popR (T : Tab) (j : Nat) (dv : List Value) (lo : Nat) (σ : SR) : Op → Option AR
  | .move x => avR σ x
  | .assign x => avR σ x
  | .pick c x y => match avR σ c with
    | some (.cst (.bool true)) => avR σ x
    | some (.cst (.bool false)) => avR σ y
    | _ => none
  | .unOp .not _ x => match avR σ x with
    | some (.cst (.bool b)) => some (.cst (.bool !b))
    | some .ok => some .nok
    | _ => none
  | .nilCheck x => match avR σ x with
    | some (.ptr j o) => some (.ptr j o)
    | _ => none
  | .fieldAddr s x f => match avR σ x, T.off s f with
    | some (.ptr j o), some fo => some (.ptr j (o + fo))
    | _, _ => none
  | .load t x => match avR σ x, look T.sizes t with
    | some (.ptr j' o), some (1, false) => if Nat.beq j' j && Nat.ble lo o then dv[o]?.map .cst else none
    | _, _ => none
  | .binOp op _ x y _ => match avR σ x, avR σ y with
    | some (.cst (.int k a)), some (.cst (.int k' b)) => if ikeq k k' then (cmp op a b).map (fun r => .cst (.bool r)) else none
    | some .len, some (.cst (.int .i32 0)) => match op with
      | .eql => some .lz
      | .gtr => some .lp
      | _ => none
    | _, _ => none
  | .slice t x none (some y) none => match avR σ x, avR σ y, look T.slices t with
    | some (.cst (.slice none 0 0)), some (.cst (.int _ 0)), some _ => some (.cst (.slice none 0 0))
    | some .sl, some (.cst (.int _ 0)), some _ => some .sl
    | _, _, _ => none
  | .indexAddr t x y => match avR σ x, avR σ y, look T.slices t with
    | some (.lst j' sz), some .idx, some sz' => if Nat.beq j' j && Nat.beq sz' sz then some (.ptr j 0) else none
    | _, _, _ => none
  | _ => none

inductive CR where
  | ok | cpl | tags
  | prim (p : WPrim)
  | len (c : Bool)
  | dfl (off n : Nat) (ss : Sets)
def callR (R : TabR) (j : Nat) (σ : SR) (f : Nat) : List Operand → Option CR
  | [x] => match avR σ x with
    | some .rdr => if Nat.beq f R.fOk then some .ok else if Nat.beq f R.fCpl then some .cpl else if Nat.beq f R.fTags then some .tags else match look R.rf f with
      | some p => some (.prim p)
      | none => match look R.rl f with
        | some c => some (.len c)
        | none => none
    | some (.ptr j' off) => if Nat.beq j' j then match look R.dt f with
        | some (n, ss) => some (.dfl off n ss)
        | none => none
      else none
    | _ => none
  | _ => none
/-- Values that are plainly the same. -/
def veq : Value → Value → Bool
  | .int k n, .int k' n' => ikeq k k' && decide (n = n')
  | .bool a, .bool b => a == b
  | .float .f64 a, .float .f64 b => Nat.beq a b
  | .slice none 0 0, .slice none 0 0 => true
  | .pointer none, .pointer none => true
  | .map none, .map none => true
  | _, _ => false
theorem veq_ok {a b : Value} (h : veq a b = true) : a = b := by
  unfold veq at h
  split at h
  · simp only [Bool.and_eq_true, decide_eq_true_eq] at h
    rw [ikeq_eq h.1, h.2]
  · simpa using h
  · simpa [Nat.beq_eq] using h
  · rfl
  · rfl
  · rfl
  · cases h
def noop (dv : List Value) (off : Nat) (ss : Sets) : Bool := allB (fun p => match dv[off + p.1]? with | some v => veq v p.2 | none => false) ss
def setL : List Value → Sets → List Value
  | vs, [] => vs
  | vs, p :: r => setL (vs.set p.1 p.2) r

/-- A way out of the function, behind a list's length that is wrong. -/
def isOut (R : TabR) (nT rr : Nat) (σ : SR) (c : Code) : Bool := match flatC c with
  | [.region _ ops false, .ret] => match ops.toList with
    | [⟨some d, .call ⟨.value (.func f), args, _⟩, _, _, _, none⟩, ⟨some r, .assign (.tmp d'), _, _, _, none⟩] => match args.toList with
      | [.tmp x] => Nat.beq f R.fCpl && Nat.beq r rr && Nat.beq d' d && Nat.blt d nT && Nat.blt r nT && (match look σ x with | some .rdr => true | _ => false)
      | _ => false
    | _ => false
  | _ => false
/-- 'a = []T{}' -/
def asEmpty (R : TabR) (c : Code) : Option (Nat × Nat) := match c with
  | .region _ ops false => match ops.toList with
    | [⟨some d, .buildSlice t 0 ps, _, _, _, none⟩, ⟨some a, .assign (.tmp d'), _, _, _, none⟩] => if Nat.beq d' d && ps.isEmpty && (look R.els t).isSome then some (d, a) else none
    | _ => none
  | _ => none
/-- 'a = append(a, make([]T, l)...)' -/
structure AppR where
  p : Nat
  q : Nat
  r : Nat
  a : Nat
  l : Nat
  t : Nat
  u : Nat
def asApp (c : Code) : Option AppR := match c with
  | .region _ ops false => match ops.toList with
    | [⟨some p, .move (.tmp a), _, _, _, none⟩, ⟨some q, .move (.tmp l), _, _, _, none⟩, ⟨some r, .call ⟨.builtin .append, args, ts⟩, _, _, _, none⟩, ⟨some a', .assign (.tmp r'), _, _, _, none⟩] =>
      match args.toList, ts.toList with
      | [.tmp p', .tmp q'], [t, u] => if Nat.beq p' p && Nat.beq q' q && Nat.beq r' r && Nat.beq a' a && !Nat.beq q p && !Nat.beq l p then some ⟨p, q, r, a, l, t, u⟩ else none
      | _, _ => none
    | _ => none
  | _ => none
/-- 'for i := int32(0); i < l; i++ { v := &a[i]; v.Default(); .. }' -/
structure LoopR where
  i : Nat
  l : Nat
  c : Nat
  a : Nat
  e : Nat
  t : Nat
  f : Nat
  bd : List Code
  ws : List Nat
def asLoopR (id : Nat) (b : Code) : Option LoopR :=
  match flatC b with
  | [.region _ o1 false, .cond (.tmp c) .skip (.exit id'), .block _ bd, .region _ o2 false] =>
    match o1.toList, o2.toList with
    | [⟨some p1, .move (.tmp i), _, _, _, none⟩, ⟨some p2, .move (.tmp l), _, _, _, none⟩, ⟨some c', .binOp .lss _ (.tmp p1') (.tmp p2') _, _, _, _, none⟩],
      [⟨some p3, .move (.tmp i1), _, _, _, none⟩, ⟨some s, .binOp .add _ (.tmp p3') (.const (.int .i32 1)) _, _, _, _, none⟩, ⟨some i2, .assign (.tmp s'), _, _, _, none⟩] =>
      match flatC bd with
      | .region _ o3 false :: .region _ o4 false :: rest =>
        match o3.toList, o4.toList with
        | [⟨some p4, .move (.tmp a), _, _, _, none⟩, ⟨some p5, .move (.tmp i3), _, _, _, none⟩, ⟨some p6, .indexAddr t (.tmp p4') (.tmp p5'), _, _, _, none⟩, ⟨some e, .assign (.tmp p6'), _, _, _, none⟩],
          [⟨some p7, .move (.tmp e'), _, _, _, none⟩, ⟨some p8, .call ⟨.value (.func f), args, _⟩, _, _, _, none⟩] =>
          match args.toList with
          | [.tmp p7'] =>
            if Nat.beq id' id && Nat.beq c' c && Nat.beq p1' p1 && Nat.beq p2' p2 && Nat.beq i1 i && Nat.beq p3' p3 && Nat.beq i2 i && Nat.beq s' s && Nat.beq i3 i && Nat.beq p4' p4 && Nat.beq p5' p5 && Nat.beq p6' p6 && Nat.beq e' e && Nat.beq p7' p7
              && !Nat.beq p2 p1 && !Nat.beq p5 p4 && !Nat.beq p1 l && !Nat.beq p4 i
              && !has (wrC bd) i && !has (wrC bd) l && !has (wrC bd) a && !has [p1, p2, c] i && !has [p1, p2, c] l && !has [p1, p2, c] a && !has [p3, s] i && !has [p3, s, i] l && !has [p3, s, i] a && !has [p7, p8] e
            then some ⟨i, l, c, a, e, t, f, rest, [p1, p2, c, p3, s, p4, p5, p6, e, p7, p8]⟩ else none
          | _ => none
        | _, _ => none
      | _ => none
    | _, _ => none
  | _ => none
/-- 'for i := int32(0); i < l; i++ { .. a[i] = v }' -/
def asLoopP (id : Nat) (b : Code) : Option LoopR :=
  match flatC b with
  | [.region _ o1 false, .cond (.tmp c) .skip (.exit id'), .block _ bd, .region _ o2 false] =>
    match o1.toList, o2.toList with
    | [⟨some p1, .move (.tmp i), _, _, _, none⟩, ⟨some p2, .move (.tmp l), _, _, _, none⟩, ⟨some c', .binOp .lss _ (.tmp p1') (.tmp p2') _, _, _, _, none⟩],
      [⟨some p3, .move (.tmp i1), _, _, _, none⟩, ⟨some s, .binOp .add _ (.tmp p3') (.const (.int .i32 1)) _, _, _, _, none⟩, ⟨some i2, .assign (.tmp s'), _, _, _, none⟩] =>
      match (flatC bd).getLast? with
      | some (.region _ o3 false) => match o3.toList with
        | ⟨some _, .move (.tmp a), _, _, _, none⟩ :: _ =>
          if Nat.beq id' id && Nat.beq c' c && Nat.beq p1' p1 && Nat.beq p2' p2 && Nat.beq i1 i && Nat.beq p3' p3 && Nat.beq i2 i && Nat.beq s' s
            && !Nat.beq p2 p1 && !Nat.beq p1 l
            && !has (wrC bd) i && !has (wrC bd) l && !has (wrC bd) a && !has [p1, p2, c] i && !has [p1, p2, c] l && !has [p1, p2, c] a && !has [p3, s] i && !has [p3, s, i] l && !has [p3, s, i] a
          then some ⟨i, l, c, a, 0, 0, 0, flatC bd, [p1, p2, c, p3, s]⟩ else none
        | _ => none
      | _ => none
    | _, _ => none
  | _ => none
def noB (nul : Nat) : Option AR → Bool
  | some .sl => true
  | some (.cst (.slice none 0 0)) => Nat.beq nul 0
  | _ => false
def isI0 : List Oper → Option Nat
  | [⟨some i, .assign (.const (.int .i32 0)), _, _, _, none⟩] => some i
  | _ => none

/-- What is done to the plan of the rest. -/
inductive Wrap where
  | same | tags
  | prim (p : WPrim)
  | len (c : Bool)
  | at (off : Nat)
  | ktag (off w : Nat) (body : RP) (ot : Nat)
def wrapR : Wrap → Res → Res
  | .same, r => r
  | .tags, r => .just (.tags r.off r.k)
  | .prim p, r => .just (.prim p r.off r.k)
  | .len c, r => .just (.arr c r.nul r.off r.d r.body r.k)
  | .at off, r => ⟨off, 0, [], .nil, r.k⟩
  | .ktag off w body ot, r => .just (.ktag off w body ot r.k)
/-- One step. -/
inductive St where
  | fail
  | done
  | go (lo : Nat) (σ : SR) (md : Md) (todo : List TD) (wr : Wrap)
  | loop (dB : List Value) (σB : SR) (tB : List TD) (nul : Nat) (d : List CV) (σ : SR) (todo : List TD)
def stepCall (lo : Nat) (dv : List Value) (σ : SR) (d : Nat) (k : List TD) : Md → CR → St
  | .len nul false, .ok => .go lo (rput σ (some d) .ok) (.len nul false) k .same
  | .none, .cpl => .go lo (rput (onlyStay σ) (some d) .cpl) .none k .same
  | .none, .tags => .go lo (rput (onlyStay σ) (some d) .inp) (.inp true 1) k .tags
  | .none, .prim p => .go lo (rput (onlyStay σ) (some d) .inp) (.inp (isU p) (width p)) k (.prim p)
  | .none, .len c => .go lo (rput (onlyStay σ) (some d) .len) (.len 0 false) k (.len c)
  | .none, .dfl off m ss => if Nat.ble lo off && Nat.ble (off + m) dv.length && noop dv off ss then .go lo (rput σ (some d) (.cst (.tuple #[]))) .none k .same else .fail
  | _, _ => .fail
def stepStore (T : Tab) (j lo : Nat) (dv : List Value) (σ : SR) (k : List TD) (t : Nat) (x y : Operand) : Md → Option Nat → St
  | .inp ag m, none => match avR σ x, avR σ y, look T.sizes t with
    | some (.ptr j' off), some .inp, some (m', ag') => if Nat.beq j' j && Nat.beq m' m && (ag' == ag) && Nat.ble lo off && Nat.ble (off + m) dv.length then .go (off + m) (onlyStay σ) .none k (.at off) else .fail
    | _, _, _ => .fail
  | _, _ => .fail
def stepAlloc (T : Tab) (nT lo : Nat) (σ : SR) (t : Nat) : Md → Option Nat → List Oper → List TD → St
  | .inp true m, some x, [⟨none, .store t1 (.tmp x1) y, _, _, _, none⟩], .code (.region _ ops2 false) :: k' => match ops2.toList with
    | ⟨some p, .move z, _, _, _, none⟩ :: ⟨some q, .load t2 (.tmp x2), _, _, _, none⟩ :: rest =>
      if Nat.beq t1 t && Nat.beq x1 x && Nat.beq t2 t && Nat.beq x2 x && !Nat.beq p x && has T.boxes t && Nat.blt p nT && Nat.blt q nT then
        match avR (rdel σ (some x)) y, avR (rdel σ (some x)) z, look T.sizes t with
        | some .inp, some az, some (m', _) => if Nat.beq m' m then .go lo (rput (rput (rdel σ (some x)) (some p) az) (some q) .inp) (.inp true m) (.ops ops2 rest :: k') .same else .fail
        | _, _, _ => .fail
      else .fail
    | ⟨some p, .move z, _, _, _, none⟩ :: ⟨some p2, .move z2, _, _, _, none⟩ :: ⟨some q, .load t2 (.tmp x2), _, _, _, none⟩ :: rest =>
      if Nat.beq t1 t && Nat.beq x1 x && Nat.beq t2 t && Nat.beq x2 x && !Nat.beq p x && !Nat.beq p2 x && has T.boxes t && Nat.blt p nT && Nat.blt p2 nT && Nat.blt q nT then
        match avR (rdel σ (some x)) y, avR (rdel σ (some x)) z, look T.sizes t with
        | some .inp, some az, some (m', _) => match avR (rput (rdel σ (some x)) (some p) az) z2 with
          | some az2 => if Nat.beq m' m then .go lo (rput (rput (rput (rdel σ (some x)) (some p) az) (some p2) az2) (some q) .inp) (.inp true m) (.ops ops2 rest :: k') .same else .fail
          | none => .fail
        | _, _, _ => .fail
      else .fail
    | _ => .fail
  | _, _, _, _ => .fail
def stepEmpty (R : TabR) (lo : Nat) (σ : SR) (t : Nat) (ps : Array (Nat × Operand)) (k : List TD) : Md → Option Nat → St
  | .len 0 false, some d => if ps.isEmpty && (look R.els t).isSome then .go lo (rput (noSl σ) (some d) .sl) (.len 2 false) k .same else .fail
  | _, _ => .fail
def stepHard (T : Tab) (R : TabR) (nT j lo : Nat) (dv : List Value) (σ : SR) (md : Md) (all : Array Oper) (o : Oper) (l : List Oper) (k : List TD) : St := match o.op with
  | .call ⟨.value (.func f), args, _⟩ => match callR R j σ f args.toList, o.dst with
    | some cr, some d => stepCall lo dv σ d (.ops all l :: k) md cr
    | _, _ => .fail
  | .store t x y => stepStore T j lo dv σ (.ops all l :: k) t x y md o.dst
  | .buildSlice t 0 ps => stepEmpty R lo σ t ps (.ops all l :: k) md o.dst
  | .alloc t => stepAlloc T nT lo σ t md o.dst l k
  | _ => .fail
def stepOp (T : Tab) (R : TabR) (nT j lo : Nat) (dv : List Value) (σ : SR) (md : Md) (all : Array Oper) (o : Oper) (l : List Oper) (k : List TD) : St :=
  if dlt o.dst nT then match gdR σ all o.guard with
    | none => .fail
    | some false => .go lo (rdel σ o.dst) md (.ops all l :: k) .same
    | some true => match popR T j dv lo σ o.op with
      | some x => .go lo (rput σ o.dst x) md (.ops all l :: k) .same
      | none => stepHard T R nT j lo dv σ md all o l k
  else .fail
def isSkip : Code → Bool
  | .skip => true
  | _ => false
def stepNok (R : TabR) (nT rr lo : Nat) (σ : SR) (x y : Code) (k : List TD) : Md → St
  | .len nul false => if isSkip y && isOut R nT rr σ x then .go lo σ (.len nul true) k .same else .fail
  | _ => .fail
def stepLz (R : TabR) (nT lo : Nat) (σ : SR) (x y : Code) (k : List TD) : Md → St
  | .len 0 okd => match asEmpty R x with
    | some (d, a) => match look σ a with
      | some (.cst (.slice none 0 0)) => if isSkip y && Nat.blt d nT && Nat.blt a nT then .go lo (rput (rdel (noSl σ) (some d)) (some a) .sl) (.len 1 okd) k .same else .fail
      | _ => .fail
    | none => .fail
  | _ => .fail
def isLen : Option AR → Bool
  | some .len => true
  | _ => false
def isK32 : Option IntKind → Bool
  | some .i32 => true
  | _ => false
def lpOk (T : Tab) (nT nul : Nat) (σ : SR) (y : Code) (i0 : Nat) (B : AppR) (L : LoopR) : Bool :=
  isSkip y && Nat.beq i0 L.i && Nat.beq L.l B.l && Nat.beq L.a B.a && Nat.beq L.t B.t && !has [B.p, B.q, B.r, B.a, L.i] B.l && !Nat.beq L.i B.a && noB nul (look σ B.a) && isLen (look σ B.l) && isK32 (look T.convs B.u)
    && Nat.blt B.p nT && Nat.blt B.q nT && Nat.blt B.r nT && Nat.blt B.a nT && Nat.blt L.i nT && allB (fun x => Nat.blt x nT) L.ws
def lpOkP (T : Tab) (nT nul : Nat) (σ : SR) (y : Code) (i0 : Nat) (B : AppR) (L : LoopR) : Bool :=
  isSkip y && Nat.beq i0 L.i && Nat.beq L.l B.l && Nat.beq L.a B.a && !has [B.p, B.q, B.r, B.a, L.i] B.l && !Nat.beq L.i B.a && noB nul (look σ B.a) && isLen (look σ B.l) && isK32 (look T.convs B.u)
    && Nat.blt B.p nT && Nat.blt B.q nT && Nat.blt B.r nT && Nat.blt B.a nT && Nat.blt L.i nT && allB (fun x => Nat.blt x nT) L.ws
/-- What is known of the slots outside a loop, behind it. -/
def outL (σ : SR) (ws : List Nat) : SR := (onlyStay σ).filter fun x => notLs x.2 && !has ws x.1
def stepLpS (T : Tab) (R : TabR) (nT j nul : Nat) (σ : SR) (y : Code) (B : AppR) (i0 : Nat) (L : LoopR) (b : Code) (k' : List TD) : St :=
  if lpOk T nT nul σ y i0 B L then match look R.els B.t, look R.dt L.f with
    | some (ks, zs), some (m, ss) =>
      if Nat.ble m zs.length && allB (fun p => Nat.blt p.1 m) ss then match cvs0 ks (setL zs ss) with
        | some d => .loop (setL zs ss) ((L.e, .ptr (j + 1) 0) :: outL σ (B.p :: B.q :: B.r :: B.a :: L.i :: wrC b)) (L.bd.map .code) nul d ((B.a, .inp) :: outL σ (B.p :: B.q :: B.r :: B.a :: L.i :: wrC b)) k'
        | none => .fail
      else .fail
    | _, _ => .fail
  else .fail
def stepLpP (T : Tab) (R : TabR) (nT j nul : Nat) (σ : SR) (y : Code) (B : AppR) (i0 : Nat) (L : LoopR) (b : Code) (k' : List TD) : St :=
  if lpOkP T nT nul σ y i0 B L then match look R.els B.t with
    | some (ks, zs) => match cvs0 ks zs with
      | some d => .loop zs ((L.a, .lst (j + 1) zs.length) :: (L.i, .idx) :: outL σ (B.p :: B.q :: B.r :: B.a :: L.i :: wrC b)) (L.bd.map .code) nul d ((B.a, .inp) :: outL σ (B.p :: B.q :: B.r :: B.a :: L.i :: wrC b)) k'
      | none => .fail
    | none => .fail
  else .fail
def stepLp (T : Tab) (R : TabR) (nT j : Nat) (σ : SR) (x y : Code) : Md → List TD → St
  | .len nul true, .code (.region _ o0 false) :: .code (.block id (.loop b)) :: k' => match asApp x, isI0 o0.toList with
    | some B, some i0 => match asLoopR id b with
      | some L => stepLpS T R nT j nul σ y B i0 L b k'
      | none => match asLoopP id b with
        | some L => stepLpP T R nT j nul σ y B i0 L b k'
        | none => .fail
    | _, _ => .fail
  | _, _ => .fail
def isRdr : Option AR → Bool
  | some .rdr => true
  | _ => false
def isPj (j : Nat) : Option AR → Bool
  | some (.ptr j' 0) => Nat.beq j' j
  | _ => false
def isNoneM : Md → Bool
  | .none => true
  | _ => false
def isMap0 : Option Value → Bool
  | some (.map none) => true
  | _ => false
def isKnR (σ : SR) (p : Nat × Value) : Bool := match look σ p.1 with
  | some (.cst c) => veq c p.2
  | _ => false
def isKv (lo : Nat) (dv : List Value) (p : Nat × Value) : Bool := Nat.ble lo p.1 && match dv[p.1]? with
  | some v => veq v p.2
  | none => false
def hookR (R : TabR) (nT rr j lo : Nat) (dv : List Value) (σ : SR) (x : Code) : Option HookR :=
  findB (fun H => codeEq H.code x && Nat.beq H.nT nT && Nat.beq H.rr rr && isRdr (look σ H.rd) && isPj j (look σ H.pv) && Nat.ble (H.off + H.w) H.ot && Nat.ble lo H.ot && Nat.blt H.ot dv.length && isMap0 dv[H.ot]? && allB (isKnR σ) H.kn && allB (isKv lo dv) H.kv) R.hk
def stepCond (T : Tab) (R : TabR) (nT rr j lo : Nat) (dv : List Value) (σ : SR) (md : Md) (c : Operand) (x y : Code) (k : List TD) : St := match avR σ c with
  | some (.cst (.bool true)) => match (if isNoneM md then hookR R nT rr j lo dv σ x else none) with
    | some H => .go (H.ot + 1) ((onlyStay σ).filter fun p => !has (wrC x) p.1) .none k (.ktag H.off H.w H.body H.ot)
    | none => .go lo σ md (.code x :: k) .same
  | some (.cst (.bool false)) => .go lo σ md (.code y :: k) .same
  | some .nok => stepNok R nT rr lo σ x y k md
  | some .lz => stepLz R nT lo σ x y k md
  | some .lp => stepLp T R nT j σ x y md k
  | _ => .fail
def isCpl : Option AR → Bool
  | some .cpl => true
  | _ => false
def isNone : Md → Bool
  | .none => true
  | _ => false
def stepCode (T : Tab) (R : TabR) (nT rr : Nat) (top : Bool) (j lo : Nat) (dv : List Value) (σ : SR) (md : Md) (k : List TD) : Code → St
  | .skip => .go lo σ md k .same
  | .seq x y => .go lo σ md ((flatC (.seq x y)).map .code ++ k) .same
  | .region _ ops false => .go lo σ md (.ops ops ops.toList :: k) .same
  | .cond c x y => stepCond T R nT rr j lo dv σ md c x y k
  | .ret => if top && isNone md && isCpl (look σ rr) then .done else .fail
  | _ => .fail
def stepR (T : Tab) (R : TabR) (nT rr : Nat) (top : Bool) (j : Nat) (dv : List Value) (lo : Nat) (σ : SR) (md : Md) : List TD → St
  | [] => if !top && isNone md then .done else .fail
  | .ops _ [] :: k => .go lo σ md k .same
  | .ops all (o :: l) :: k => stepOp T R nT j lo dv σ md all o l k
  | .code c :: k => stepCode T R nT rr top j lo dv σ md k c
def execR (T : Tab) (R : TabR) (nT rr : Nat) : Nat → Bool → Nat → List Value → Nat → SR → Md → List TD → Option Res
  | 0, _, _, _, _, _, _, _ => none
  | n + 1, top, j, dv, lo, σ, md, todo => match stepR T R nT rr top j dv lo σ md todo with
    | .fail => none
    | .done => some (.just .nil)
    | .go lo' σ' md' todo' wr => match execR T R nT rr n top j dv lo' σ' md' todo' with
      | some r => some (wrapR wr r)
      | none => none
    | .loop dB σB tB nul d σ' k' => match execR T R nT rr n false (j + 1) dB 0 σB .none tB with
      | some rb => match execR T R nT rr n top j dv lo σ' (.inp false 1) k' with
        | some r => some ⟨r.off, nul, d, rb.k, r.k⟩
        | none => none
      | none => none
end Go.Proofs.Eng
/-! The executor of reading: what its words denote; its state in memory. -/
namespace Go.Proofs.Eng
open Go Go.RowKit

/-- What a run of reading goes by: the reader's block, the value read last, the list under way, a list's length, whether the reader ran out; what is handed out then. -/
structure RE where
  rb : Nat
  pv : Value
  sl : Value
  l : Int
  bad : Bool
  E : Value
  ix : Nat
def errV (E : Value) (bad : Bool) : Value := if bad then E else .nilIface
def DenR (lvs : List (Nat × Nat)) (G : RE) : AR → Value → Prop
  | .cst u, v => v = u
  | .ptr j off, v => ∃ L, lvs[j]? = some L ∧ v = .pointer (some ⟨L.1, L.2 + off, none⟩)
  | .rdr, v => v = .pointer (some ⟨G.rb, 0, none⟩)
  | .inp, v => v = G.pv
  | .len, v => v = .int .i32 G.l
  | .lz, v => v = .bool (G.l == 0)
  | .lp, v => v = .bool (decide (G.l > 0))
  | .ok, v => v = .bool (!G.bad)
  | .nok, v => v = .bool G.bad
  | .sl, v => v = G.sl
  | .idx, v => v = .int .i32 (G.ix : Int)
  | .lst j sz, v => ∃ b o n c, v = .slice (some ⟨b, o, none⟩) n c ∧ G.ix < n ∧ lvs[j]? = some (b, o + G.ix * sz)
  | .cpl, v => v = errV G.E G.bad
def GamR (lvs : List (Nat × Nat)) (G : RE) (σ : SR) (a : Act) : Prop := ∀ t x, (t, x) ∈ σ → DenR lvs G x (a.eval (.tmp t))
theorem avR_ok {lvs : List (Nat × Nat)} {G : RE} {σ : SR} {a : Act} (hG : GamR lvs G σ a) {x : Operand} {y : AR} (h : avR σ x = some y) : DenR lvs G y (a.eval x) := by
  cases x with
  | tmp t => exact hG t y (look_mem h)
  | const v => simp only [avR, Option.some.injEq] at h; subst h; rfl
  | global g => simp [avR] at h
  | func f => simp [avR] at h
section
variable {lvs : List (Nat × Nat)} {G : RE} {σ : SR} {a : Act}
theorem GamR.sub {σ' : SR} (h : GamR lvs G σ a) (hs : ∀ p, p ∈ σ' → p ∈ σ) : GamR lvs G σ' a := fun t x hx => h t x (hs _ hx)
theorem GamR.put {nT : Nat} (h : GamR lvs G σ a) (hn : a.tmps.size = nT) {o : Option Nat} (hd : dlt o nT = true) {x : AR} {v : Value} (hv : DenR lvs G x v) : GamR lvs G (rput σ o x) (a.put o v) := by
  cases o with
  | none => exact h
  | some e =>
    intro t y hy
    have he : e < a.tmps.size := by rw [hn]; simpa [dlt, Nat.blt_eq] using hd
    simp only [rput, List.mem_cons, Prod.mk.injEq, List.mem_filter] at hy
    rcases hy with ⟨rfl, rfl⟩ | ⟨hm, hne⟩
    · rw [eval_put_same _ _ _ he]; exact hv
    · rw [eval_put_other _ _ _ _ (by intro hte; subst hte; simp at hne)]; exact h t y hm
theorem GamR.del (h : GamR lvs G σ a) {o : Option Nat} {v : Value} : GamR lvs G (rdel σ o) (a.put o v) := by
  cases o with
  | none => exact h
  | some e =>
    intro t y hy
    simp only [rdel, List.mem_filter] at hy
    rw [eval_put_other _ _ _ _ (by intro hte; subst hte; simp at hy)]; exact h t y hy.1
theorem DenR.stay {x : AR} {v : Value} {G' : RE} (h : DenR lvs G x v) (hx : stay x = true) (hr : G'.rb = G.rb) (hi : G'.ix = G.ix) : DenR lvs G' x v := by
  cases x <;> first | exact h | (simp only [DenR] at h ⊢; rw [hr]; exact h) | (simp only [DenR] at h ⊢; rw [hi]; exact h) | (simp [Eng.stay] at hx)
theorem GamR.stay {G' : RE} (h : GamR lvs G σ a) (hr : G'.rb = G.rb) (hi : G'.ix = G.ix) : GamR lvs G' (onlyStay σ) a := by
  intro t y hy
  simp only [onlyStay, List.mem_filter] at hy
  exact (h t y hy.1).stay hy.2 hr hi
theorem DenR.out {x : AR} {v : Value} {G' : RE} (h : DenR lvs G x v) (hx : Eng.stay x = true) (hl : notLs x = true) (hr : G'.rb = G.rb) : DenR lvs G' x v := by
  cases x <;> first | exact h | (simp only [DenR] at h ⊢; rw [hr]; exact h) | (simp [Eng.notLs] at hl; done) | (simp [Eng.stay] at hx; done)
theorem DenR.snoc {x : AR} {v : Value} {L : Nat × Nat} (h : DenR lvs G x v) : DenR (lvs ++ [L]) G x v := by
  cases x with
  | ptr j o => obtain ⟨M, h1, h2⟩ := h; exact ⟨M, getElem_snoc h1, h2⟩
  | lst j sz => obtain ⟨b, o, n, c, h1, h2, h3⟩ := h; exact ⟨b, o, n, c, h1, h2, getElem_snoc h3⟩
  | _ => exact h
end
theorem gdR_true {σ : SR} {lvs : List (Nat × Nat)} {G : RE} {a : Act} (hG : GamR lvs G σ a) {all : Array Oper} {o : Oper} {b : Bool} (h : gdR σ all o.guard = some b) :
    Region.wanted o (yielded all a.tmps) = b := by
  unfold gdR at h
  unfold Region.wanted
  split at h
  · rename_i hg; rw [hg]; cases h; rfl
  · rename_i j want hg
    rw [hg]
    simp only
    split at h
    · rename_i oj hj
      split at h
      · rename_i e he
        split at h
        · rename_i c hl
          cases h
          have hden : a.eval (.tmp e) = .bool c := hG e _ (look_mem hl)
          have hy : yielded all a.tmps j = some c := by
            unfold yielded
            simp only [hj, Option.bind_some, he]
            simp only [Act.eval, Array.getD_eq_getD_getElem?] at hden
            cases hq : a.tmps[e]? with
            | none => rw [hq] at hden; simp [undef] at hden
            | some v => rw [hq] at hden; simp only [Option.getD_some] at hden; subst hden; rfl
          rw [hy]
          simp
        · cases h
      · cases h
    · cases h

/-- The list under way points at nothing, or at an empty block. -/
def SlF (sl : Value) : Prop := sl = .slice none 0 0 ∨ ∃ b, sl = .slice (some ⟨b, 0, none⟩) 0 0
def SlOK (w : World) (X : Nat → Prop) (nul : Nat) (l : Int) (sl : Value) : Prop :=
  (sl = .slice none 0 0 ∧ (nul = 0 ∨ (nul = 1 ∧ l ≠ 0))) ∨ (∃ b t, sl = .slice (some ⟨b, 0, none⟩) 0 0 ∧ ¬ X b ∧ w.heap[b]? = some (.cells #[] t (0, 0)) ∧ (nul = 2 ∨ (nul = 1 ∧ l = 0)))
theorem SlOK.form {w : World} {X : Nat → Prop} {nul : Nat} {l : Int} {sl : Value} (h : SlOK w X nul l sl) : SlF sl := by
  rcases h with ⟨h, _⟩ | ⟨b, t, h, _⟩
  · exact .inl h
  · exact .inr ⟨b, h⟩
theorem SlOK.keep {w w' : World} {X : Nat → Prop} {nul : Nat} {l : Int} {sl : Value} (h : SlOK w X nul l sl) (k : Keeps X w w') : SlOK w' X nul l sl := by
  rcases h with h | ⟨b, t, h1, h2, h3, h4⟩
  · exact .inl h
  · exact .inr ⟨b, t, h1, h2, k.at h2 h3, h4⟩
theorem SlOK.rep {w : World} {X : Nat → Prop} {nul : Nat} {l : Int} {sl : Value} (h : SlOK w X nul l sl) (hl : l ≤ 0) : Rep w X sl (.arr (isNil nul l) 0 []) := by
  rcases h with ⟨rfl, h⟩ | ⟨b, t, rfl, h2, h3, h4⟩
  · have : isNil nul l = true := by
      rcases h with rfl | ⟨rfl, h⟩
      · simp [isNil, hl]
      · simp only [isNil, decide_eq_true_eq]; omega
    rw [this]
    exact .anil _ _
  · have : isNil nul l = false := by
      rcases h4 with rfl | ⟨rfl, h⟩
      · rfl
      · simp [isNil, h]
    rw [this]
    exact .arr b 0 0 t #[] [] h2 h3 (by simp) (by simp) (fun i v c h => by simp at h)

theorem popR_ok {P : Program} {T : Tab} (hT : TabOK P T) {w : World} {lvs : List (Nat × Nat)} {G : RE} {σ : SR} {a : Act} (hG : GamR lvs G σ a) (hsl : SlF G.sl) {j bl o0 : Nat} (hj : lvs[j]? = some (bl, o0)) {dv : List Value} {lo : Nat}
    (hdv : ∀ k v, lo ≤ k → dv[k]? = some v → w.cell? ⟨bl, o0 + k, none⟩ = some v) (o : Oper) {x : AR} (h : popR T j dv lo σ o.op = some x) :
    ∃ v, (execOp a.eval o).run P w = .ok (.value v) w ∧ DenR lvs G x v := by
  generalize hop : o.op = op at h
  cases op with
  | move y => exact ⟨_, run_move _ _ hop, avR_ok hG h⟩
  | assign y => exact ⟨_, run_assign _ _ hop, avR_ok hG h⟩
  | pick c y z =>
    simp only [popR] at h
    split at h
    · rename_i hc
      exact ⟨_, run_pick _ _ hop (avR_ok hG hc), avR_ok hG h⟩
    · rename_i hc
      exact ⟨_, run_pick _ _ hop (avR_ok hG hc), avR_ok hG h⟩
    · cases h
  | unOp u t y =>
    cases u <;> simp only [popR, reduceCtorEq] at h
    split at h
    · rename_i b hc
      cases h
      exact ⟨_, run_not _ _ hop (avR_ok hG hc), rfl⟩
    · rename_i hc
      cases h
      exact ⟨_, run_not _ _ hop (avR_ok hG hc), by simp [DenR]⟩
    · cases h
  | nilCheck y =>
    simp only [popR] at h
    split at h
    · rename_i j oo hc
      cases h
      obtain ⟨L, hL, hv⟩ := avR_ok hG hc
      exact ⟨_, run_nilCheck _ _ hop hv, L, hL, rfl⟩
    · cases h
  | fieldAddr s y f =>
    simp only [popR] at h
    split at h
    · rename_i j oo fo hc hf
      cases h
      obtain ⟨L, hL, hv⟩ := avR_ok hG hc
      exact ⟨_, run_fieldAddr_tab hT hop hf hv, L, hL, by rw [Nat.add_assoc]⟩
    · cases h
  | load t y =>
    simp only [popR] at h
    split at h
    · rename_i j' oo hc hsz
      split at h
      · rename_i hcond
        simp only [Bool.and_eq_true, Nat.beq_eq] at hcond
        obtain ⟨rfl, hlo⟩ := hcond
        rw [Option.map_eq_some_iff] at h
        obtain ⟨v, hv, rfl⟩ := h
        obtain ⟨L, hL, hp⟩ := avR_ok hG hc
        rw [hj] at hL
        cases hL
        obtain ⟨dd, i, h1, h2, h3, h4, h5⟩ := hT.sizes t 1 false (look_mem hsz)
        exact ⟨v, run_load1 _ _ hop hp h1 h4 (hdv oo v (Nat.le_of_ble_eq_true hlo) hv), rfl⟩
      · cases h
    · cases h
  | binOp bop t y z t' =>
    simp only [popR] at h
    split at h
    · rename_i k p k' q hx hy
      split at h
      · rename_i hk
        obtain rfl := ikeq_eq hk
        rw [Option.map_eq_some_iff] at h
        obtain ⟨b, hb, rfl⟩ := h
        exact ⟨_, run_cmp hop (avR_ok hG hx) (avR_ok hG hy) hb, rfl⟩
      · cases h
    · rename_i hx hy
      split at h
      · cases h
        exact ⟨_, run_cmp (k := .i32) hop (avR_ok hG hx) (avR_ok hG hy) rfl, rfl⟩
      · cases h
        exact ⟨_, run_cmp (k := .i32) hop (avR_ok hG hx) (avR_ok hG hy) rfl, rfl⟩
      · cases h
    · cases h
  | slice t y lo' hi mx =>
    cases lo' with
    | some _ => simp [popR] at h
    | none =>
    cases hi with
    | none => simp [popR] at h
    | some hi =>
    cases mx with
    | some _ => simp [popR] at h
    | none =>
    simp only [popR] at h
    split at h
    · rename_i hx hy hsl'
      cases h
      obtain ⟨e, i, h1, h2, h3⟩ := hT.slices t _ (look_mem hsl')
      have hyv : a.eval _ = Value.int _ 0 := avR_ok hG hy
      refine ⟨_, run_sliceH (m := 0) hop h1 h2 (avR_ok hG hx) hyv (Nat.le_refl _), rfl⟩
    · rename_i hx hy hsl'
      cases h
      obtain ⟨e, i, h1, h2, h3⟩ := hT.slices t _ (look_mem hsl')
      have hyv : a.eval _ = Value.int _ 0 := avR_ok hG hy
      have hxv : a.eval y = G.sl := avR_ok hG hx
      rcases hsl with hs | ⟨b, hs⟩
      · exact ⟨_, run_sliceH (m := 0) hop h1 h2 (hxv.trans hs) hyv (Nat.le_refl _), hs.symm⟩
      · exact ⟨_, run_sliceH (m := 0) hop h1 h2 (hxv.trans hs) hyv (Nat.le_refl _), hs.symm⟩
    · cases h
  | indexAddr t y z =>
    simp only [popR] at h
    split at h
    · rename_i j' sz sz' hx hy hsl'
      split at h
      · rename_i hc
        simp only [Bool.and_eq_true, Nat.beq_eq] at hc
        obtain ⟨rfl, rfl⟩ := hc
        cases h
        obtain ⟨b, oo, n, c, h1, h2, h3⟩ := avR_ok hG hx
        have hyv : a.eval z = .int .i32 (G.ix : Int) := avR_ok hG hy
        obtain ⟨e, i, g1, g2, g3⟩ := hT.slices t _ (look_mem hsl')
        refine ⟨_, run_indexAddr hop g1 g2 h1 .i32 hyv h2, (b, oo + G.ix * sz'), h3, ?_⟩
        rw [g3]
        rfl
      · cases h
    · cases h
  | _ => simp [popR] at h
end Go.Proofs.Eng
/-! The executor of reading: its state in memory, kept and turned. -/
namespace Go.Proofs.Eng
open Go Go.RowKit

/-- The state of a run of reading: level by level a struct's cells lie within a block; the last level's are 'vals', and say 'cs'; the reader is at s; the package's variable g holds E. -/
structure StR (w : World) (X : Nat → Prop) (tR g : Nat) (E : Value) (rb bl : Nat) (A C vals : List Value) (bt : TypeId) (cs : List CV) (s : RS) : Prop where
  xb : X bl
  xr : X rb
  ne : bl ≠ rb
  lt : ∀ b, X b → b < w.heap.size
  row : w.heap[bl]? = some (.cells (A ++ (vals ++ C)).toArray bt (0, 0))
  len : vals.length = cs.length
  rep : ∀ (k : Nat) (v : Value) (c : CV), vals[k]? = some v → cs[k]? = some c → Rep w X v c
  rd : RdOK w X tR rb s
  xg : ¬ X g
  err : w.cell? ⟨g, 0, none⟩ = some E
theorem SrcRep.mono {w : World} {X Y : Nat → Prop} {v : Value} {s : Option (List UInt8)} (h : SrcRep w X v s) (hy : ∀ b, b < w.heap.size → Y b → X b) : SrcRep w Y v s := by
  cases s with
  | none => exact h
  | some l => exact BytesRep.mono h hy
theorem RdOK.mono {w : World} {X Y : Nat → Prop} {tR rb : Nat} {s : RS} (h : RdOK w X tR rb s) (hy : ∀ b, b < w.heap.size → Y b → X b) : RdOK w Y tR rb s := by
  obtain ⟨v, h1, h2⟩ := h
  exact ⟨v, h1, h2.mono hy⟩

theorem lt_of_cell {w : World} {a : Addr} {v : Value} (h : w.cell? a = some v) : a.block < w.heap.size := by
  unfold World.cell? at h
  cases hq : w.heap[a.block]? with
  | none => rw [hq] at h; simp at h
  | some o => exact lt_of_some hq
section
variable {w w' : World} {X : Nat → Prop} {tR g : Nat} {E : Value} {rb bl : Nat} {A C vals : List Value} {bt : TypeId} {cs : List CV} {s : RS}
/-- Only the reader's block is turned. -/
theorem StR.byRd {s' : RS} (h : StR w X tR g E rb bl A C vals bt cs s) (hg : w.grownBy w' (some rb)) (hr : RdOK w' X tR rb s') : StR w' X tR g E rb bl A C vals bt cs s' := by
  have k := keeps_by hg h.xr
  exact ⟨h.xb, h.xr, h.ne, fun b hb => Nat.lt_of_lt_of_le (h.lt b hb) hg.size, (hg.block bl (lt_of_some h.row) (by intro e; cases e; exact h.ne rfl)).trans h.row, h.len, fun i v c hv hc => (h.rep i v c hv hc).keep k, hr, h.xg,
    (k.cell (a := ⟨g, 0, none⟩) h.xg (lt_of_cell h.err)).trans h.err⟩
theorem RdOK.fresh (h : RdOK w X tR rb s) (hb : Below w.heap.size w w') : RdOK w' X tR rb s := by
  obtain ⟨v, h1, h2⟩ := h
  exact ⟨v, (hb.block rb (lt_of_some h1)).trans h1, h2.keep ((Keeps.of_below hb).mono (fun b hb' => hb') |>.mono (Y := fun b => w.heap.size ≤ b) (fun b hb' => hb') |> fun k => ⟨k.1, fun b hlt _ => hb.block b hlt⟩)⟩
/-- New blocks alone are made. -/
theorem StR.fresh (h : StR w X tR g E rb bl A C vals bt cs s) (hb : Below w.heap.size w w') : StR w' X tR g E rb bl A C vals bt cs s := by
  have k : Keeps X w w' := ⟨hb.size, fun b hlt _ => hb.block b hlt⟩
  exact ⟨h.xb, h.xr, h.ne, fun b hx => Nat.lt_of_lt_of_le (h.lt b hx) hb.size, (hb.block bl (lt_of_some h.row)).trans h.row, h.len, fun i v c hv hc => (h.rep i v c hv hc).keep k, h.rd.fresh hb, h.xg,
    (k.cell (a := ⟨g, 0, none⟩) h.xg (lt_of_cell h.err)).trans h.err⟩
/-- The struct's cells are turned. -/
theorem StR.put {vals' : List Value} {cs' : List CV} (h : StR w X tR g E rb bl A C vals bt cs s) (hl : vals'.length = cs'.length) (hr : ∀ (k : Nat) (v : Value) (c : CV), vals'[k]? = some v → cs'[k]? = some c → Rep w X v c) :
    StR (w.setRow bl (A ++ (vals' ++ C)).toArray) X tR g E rb bl A C vals' bt cs' s := by
  have k : Keeps X w (w.setRow bl (A ++ (vals' ++ C)).toArray) := (Turn.setRow w rb bl _).keeps h.xr h.xb
  obtain ⟨v, h1, h2⟩ := h.rd
  exact ⟨h.xb, h.xr, h.ne, fun b hx => by simpa [World.setRow] using h.lt b hx, setRow_heap _ _ _ _ _ _ h.row, hl, fun i v c hv hc => (hr i v c hv hc).keep k,
    ⟨v, (setRow_other w bl rb _ (fun e => h.ne e.symm)).trans h1, h2.keep k⟩, h.xg, (k.cell (a := ⟨g, 0, none⟩) h.xg (lt_of_cell h.err)).trans h.err⟩
end

/-- Cells laid over others. -/
def spl (l : List Value) (o : Nat) (v : List Value) : List Value := l.take o ++ (v ++ l.drop (o + v.length))
theorem spl_length {l v : List Value} {o : Nat} (h : o + v.length ≤ l.length) : (spl l o v).length = l.length := by simp [spl]; omega
theorem get3 {α : Type} {l v : List α} {o : Nat} (h : o + v.length ≤ l.length) (k : Nat) : (l.take o ++ (v ++ l.drop (o + v.length)))[k]? = if k < o then l[k]? else if k < o + v.length then v[k - o]? else l[k]? := by
  by_cases h1 : k < o
  · rw [if_pos h1, List.getElem?_append_left (by simp; omega), List.getElem?_take, if_pos h1]
  · rw [if_neg h1, List.getElem?_append_right (by simp; omega)]
    have e : (l.take o).length = o := by simp; omega
    rw [e]
    by_cases h2 : k < o + v.length
    · rw [if_pos h2, List.getElem?_append_left (by omega)]
    · rw [if_neg h2, List.getElem?_append_right (by omega), List.getElem?_drop]
      congr 1
      omega
theorem spl_get {l v : List Value} {o : Nat} (h : o + v.length ≤ l.length) (k : Nat) : (spl l o v)[k]? = if k < o then l[k]? else if k < o + v.length then v[k - o]? else l[k]? := get3 h k
theorem setAt_get {l v : List CV} {o : Nat} (h : o + v.length ≤ l.length) (k : Nat) : (setAt l o v)[k]? = if k < o then l[k]? else if k < o + v.length then v[k - o]? else l[k]? := get3 h k

theorem Rep.cells1 {X : Nat → Prop} {w : World} {v : Value} {c : CV} (h : Rep w X v c) : v.cells = #[v] := by
  cases h <;> first | rfl | (rename_i h; obtain ⟨b, o, n, c, rfl, _⟩ := h; rfl)
theorem RepV.cellsOf {w : World} {X : Nat → Prop} {ag : Bool} {v : Value} {cs : List CV} (h : RepV w X ag v cs) :
    ∃ vs : List Value, v.cells = vs.toArray ∧ vs.length = cs.length ∧ (∀ (i : Nat) (u : Value) (c : CV), vs[i]? = some u → cs[i]? = some c → Rep w X u c) ∧ ∀ u ∈ vs, u.oneCell' = true := by
  cases ag with
  | false =>
    obtain ⟨c, rfl, h⟩ := h
    refine ⟨[v], h.cells1, rfl, ?_, ?_⟩
    · intro i u c' hu hc
      cases i with
      | zero => cases hu; cases hc; exact h
      | succ i => simp at hu
    · intro u hu
      simp only [List.mem_singleton] at hu
      subst hu
      exact h.oneCell
  | true =>
    obtain ⟨vs, rfl, hl, hr⟩ := h
    refine ⟨vs, rfl, hl, hr, ?_⟩
    intro u hu
    obtain ⟨i, hi⟩ := List.mem_iff_getElem?.1 hu
    have hlt : i < cs.length := by rw [← hl]; exact (List.getElem?_eq_some_iff.1 hi).1
    exact (hr i u _ hi (List.getElem?_eq_getElem hlt)).oneCell
theorem RepV.keep {w w' : World} {X : Nat → Prop} {ag : Bool} {v : Value} {cs : List CV} (h : RepV w X ag v cs) (k : Keeps X w w') : RepV w' X ag v cs := by
  cases ag with
  | false => obtain ⟨c, rfl, h⟩ := h; exact ⟨c, rfl, h.keep k⟩
  | true => obtain ⟨vs, rfl, hl, hr⟩ := h; exact ⟨vs, rfl, hl, fun i u c hu hc => (hr i u c hu hc).keep k⟩

theorem rSpan_len16 (s : RS) : ((match (rSpan 16 s).1 with | some l => l.map fun (x : UInt8) => CV.int .u8 x.toNat | none => List.replicate 16 (CV.int .u8 0))).length = 16 := by
  by_cases h : (s.rest.length : Int) < 16 ∨ (16 : Int) < 0
  · unfold rSpan
    rw [if_pos h]
    rfl
  · unfold rSpan
    rw [if_neg h]
    cases hs : s.src with
    | none => rfl
    | some b =>
      simp only [RS.rest, hs] at h
      simp
      omega
theorem rprim_len (p : WPrim) (s : RS) : (rprim p s).1.length = width p := by
  cases p with
  | uuid => exact rSpan_len16 s
  | nstr => show (rNstr _).1.length = 1; unfold rNstr; split <;> rfl
  | cnstr => show (rNstr _).1.length = 1; unfold rNstr; split <;> rfl
  | byt => show (rByt _).1.length = 1; unfold rByt; split <;> rfl
  | cbyt => show (rByt _).1.length = 1; unfold rByt; split <;> rfl
  | nbyt => show (rNbyt _).1.length = 1; unfold rNbyt; split <;> rfl
  | cnbyt => show (rNbyt _).1.length = 1; unfold rNbyt; split <;> rfl
  | _ => rfl
theorem i32_range (n : Int) : -2147483648 ≤ IntKind.i32.wrap n ∧ IntKind.i32.wrap n < 2147483648 := by
  simp [IntKind.wrap, IntKind.bits, IntKind.signed]
  split <;> omega
theorem rlen_range (c : Bool) (s : RS) : -2147483648 ≤ (rlen c s).1 ∧ (rlen c s).1 < 2147483648 := by
  have key : ∀ (n : Int) (t : RS), -2147483648 ≤ (rLenOk (IntKind.i32.wrap n) t).1 ∧ (rLenOk (IntKind.i32.wrap n) t).1 < 2147483648 := by
    intro n t
    unfold rLenOk
    split
    · simp
    · exact i32_range n
  cases c with
  | false => exact key _ _
  | true => exact key _ _

/-- What behind a list's length is to come. -/
def outc (md : Md) (r : Res) (cs : List CV) (s : RS) (pc : List CV) (l : Int) : Option (List CV × RS) := match md with
  | .none => runR r.k cs s
  | .inp _ _ => runR r.k (setAt cs r.off pc) s
  | .len _ _ => if s.bad then none else match loopR (fun e t => runR r.body e t) r.d l.toNat s with
    | none => none
    | some (es, t) => runR r.k (setAt cs r.off [.arr (isNil r.nul l) l.toNat es]) t
def MdOK (w : World) (X : Nat → Prop) (G : RE) (pc : List CV) (s : RS) : Md → Prop
  | .none => True
  | .inp ag n => RepV w X ag G.pv pc ∧ pc.length = n
  | .len nul okd => -2147483648 ≤ G.l ∧ G.l < 2147483648 ∧ (okd = true → s.bad = false) ∧ SlOK w X nul G.l G.sl
theorem MdOK.keep {w w' : World} {X : Nat → Prop} {G : RE} {pc : List CV} {s : RS} {md : Md} (h : MdOK w X G pc s md) (k : Keeps X w w') : MdOK w' X G pc s md := by
  cases md with
  | none => trivial
  | inp ag n => exact ⟨h.1.keep k, h.2⟩
  | len nul okd => exact ⟨h.1, h.2.1, h.2.2.1, h.2.2.2.keep k⟩

structure AfterN (a a' : Act) (w w' : World) (rb bl : Nat) : Prop where
  defers : a'.defers = a.defers
  turn : Turn w w' rb bl
structure AfterR (a a' : Act) (w w' : World) (rb bl nT : Nat) (wr : List Nat) : Prop extends AfterN a a' w w' rb bl where
  size : a'.tmps.size = nT
  same : ∀ t, t ∉ wr → a'.eval (.tmp t) = a.eval (.tmp t)
theorem AfterN.step {a a' : Act} {w w1 w' : World} {rb bl : Nat} {o : Option Nat} {v : Value} (h : AfterN (a.put o v) a' w1 w' rb bl) (ht : Turn w w1 rb bl) : AfterN a a' w w' rb bl := ⟨h.defers.trans (put_defers _ _ _), ht.trans h.turn⟩
theorem AfterR.step {a a' : Act} {w w1 w' : World} {rb bl nT : Nat} {wr wr' : List Nat} {o : Option Nat} {v : Value} (h : AfterR (a.put o v) a' w1 w' rb bl nT wr') (hw : ∀ t, t ∉ wr → t ∉ wr' ∧ some t ≠ o) (ht : Turn w w1 rb bl) :
    AfterR a a' w w' rb bl nT wr := ⟨h.toAfterN.step ht, h.size, fun t h' => (h.same t (hw t h').1).trans (eval_put_far (hw t h').2)⟩
theorem AfterR.sub {a a' : Act} {w w' : World} {rb bl nT : Nat} {wr wr' : List Nat} (h : AfterR a a' w w' rb bl nT wr') (hw : ∀ t, t ∉ wr → t ∉ wr') : AfterR a a' w w' rb bl nT wr := ⟨h.toAfterN, h.size, fun t ht => h.same t (hw t ht)⟩

def RCplContract (P : Program) (tR g : Nat) (E : Value) (f : FuncId) : Prop :=
  ∀ (w : World) (X : Nat → Prop) (rb : Nat) (s : RS), RdOK w X tR rb s → w.cell? ⟨g, 0, none⟩ = some E →
    Calls P f #[.pointer (some ⟨rb, 0, none⟩)] w fun e w' => e = .returned (errV E s.bad) ∧ w' = w
/-- What a piece that is taken as a whole reads. -/
def HRContract (P : Program) (tR g : Nat) (E : Value) (H : HookR) : Prop :=
  ∀ (X : Nat → Prop) (bl : Nat) (A C vals : List Value) (bt : TypeId) (cs : List CV) (s : RS) (rb : Nat) (w : World) (a : Act) (Q : Exit → Act → World → Prop) (k : List TD),
    StR w X tR g E rb bl A C vals bt cs s → a.tmps.size = H.nT → a.defers = [] → a.eval (.tmp H.rd) = .pointer (some ⟨rb, 0, none⟩) → a.eval (.tmp H.pv) = .pointer (some ⟨bl, A.length, none⟩) → vals[H.ot]? = some (.map none) → H.off + H.w ≤ H.ot → (∀ p ∈ H.kn, a.eval (.tmp p.1) = p.2) → (∀ p ∈ H.kv, vals[p.1]? = some p.2) →
    (∀ a' w' vals' v l s', kloop (fun c t => runR H.body c t) (rUv s).1 ((cs.drop H.off).take H.w) [] (rUv s).2 = some (v, l, s') → AfterR a a' w w' rb bl H.nT (wrC H.code) →
      StR w' X tR g E rb bl A C vals' bt (setAt (setAt cs H.off v) H.ot [.tags l]) s' → vals'.length = vals.length → (∀ q, H.ot < q → vals'[q]? = vals[q]?) → wpT P Q k a' w') →
    (∀ a' w', kloop (fun c t => runR H.body c t) (rUv s).1 ((cs.drop H.off).take H.w) [] (rUv s).2 = none → AfterN a a' w w' rb bl → a'.eval (.tmp H.rr) = E → Q .ret a' w') → wpT P Q (.code H.code :: k) a w
structure TabROK (P : Program) (R : TabR) (tR g : Nat) (E : Value) : Prop where
  rf : ∀ f p, (f, p) ∈ R.rf → RContract P tR f p ∧ Callable P f
  rl : ∀ f c, (f, c) ∈ R.rl → RLContract P tR f c ∧ Callable P f
  ok : ROkContract P tR R.fOk ∧ Callable P R.fOk
  cpl : RCplContract P tR g E R.fCpl ∧ Callable P R.fCpl
  tags : RTagsContract P tR R.fTags ∧ Callable P R.fTags
  dt : ∀ f n ss, (f, (n, ss)) ∈ R.dt → DContract P f n ss ∧ Callable P f
  els : ∀ t ks zs, (t, (ks, zs)) ∈ R.els → ∃ e i z, P.underlying t = some (.slice e) ∧ P.info? e = some i ∧ i.zero = some z ∧ z.cells = zs.toArray ∧ i.size = zs.length ∧ 0 < zs.length ∧ i.bytes ≤ 65536
  hk : ∀ H ∈ R.hk, HRContract P tR g E H
/-- What the executor of reading says with n steps is true. -/
def Truth (P : Program) (T : Tab) (R : TabR) (nT rr tR g : Nat) (E : Value) (n : Nat) : Prop :=
  ∀ (top : Bool) (j : Nat) (dv : List Value) (lo : Nat) (σ : SR) (md : Md) (todo : List TD) (r : Res), execR T R nT rr n top j dv lo σ md todo = some r →
  ∀ (Q : Exit → Act → World → Prop) (X : Nat → Prop) (lvs : List (Nat × Nat)) (bl : Nat) (A C vals : List Value) (bt : TypeId) (cs : List CV) (s : RS) (G : RE) (pc : List CV) (w : World) (a : Act),
    lvs.length = j + 1 → lvs[j]? = some (bl, A.length) → StR w X tR g E G.rb bl A C vals bt cs s → G.bad = s.bad → G.E = E → dv.length = vals.length → (∀ k, lo ≤ k → vals[k]? = dv[k]?) →
    GamR lvs G σ a → a.tmps.size = nT → a.defers = [] → SlF G.sl → MdOK w X G pc s md →
    (∀ a' w' vals' cs' s', outc md r cs s pc G.l = some (cs', s') → AfterR a a' w w' G.rb bl nT (wrT todo) → StR w' X tR g E G.rb bl A C vals' bt cs' s' → vals'.length = vals.length → (top = true → a'.eval (.tmp rr) = errV E s'.bad) → Q (if top then .ret else .normal) a' w') →
    (∀ a' w', outc md r cs s pc G.l = none → AfterN a a' w w' G.rb bl → a'.eval (.tmp rr) = E → Q .ret a' w') →
    wpT P Q todo a w
end Go.Proofs.Eng
/-! The executor of reading: a list is made, and read thing by thing. -/
namespace Go.Proofs.Eng
open Go Go.RowKit

/-- So many things' cells. -/
def zl (zs : List Value) : Nat → List Value
  | 0 => []
  | n + 1 => zs ++ zl zs n
theorem zl_length (zs : List Value) (n : Nat) : (zl zs n).length = n * zs.length := by
  induction n with
  | zero => simp [zl]
  | succ n ih => simp [zl, ih, Nat.add_mul, Nat.add_comm]
theorem zl_get (zs : List Value) (hz : 0 < zs.length) : ∀ (n k : Nat), k < n * zs.length → (zl zs n)[k]? = zs[k % zs.length]? := by
  intro n
  induction n with
  | zero => intro k h; simp at h
  | succ n ih =>
    intro k h
    by_cases hk : k < zs.length
    · rw [zl, List.getElem?_append_left hk, Nat.mod_eq_of_lt hk]
    · rw [zl, List.getElem?_append_right (by omega), ih _ (by rw [Nat.add_mul] at h; omega), Nat.mod_eq_sub_mod (Nat.le_of_not_lt hk)]
theorem zeroCells_zl (zs : List Value) (hz : 0 < zs.length) (n : Nat) : Builtin.zeroCells zs.toArray n = (zl zs n).toArray := by
  apply Array.toList_inj.1
  apply List.ext_getElem?
  intro k
  by_cases hk : k < n * zs.length
  · have h1 := zl_get zs hz n k hk
    have h2 : k % zs.length < zs.length := Nat.mod_lt _ hz
    simp only [Builtin.zeroCells, List.size_toArray]
    rw [show ((zl zs n).toArray.toList)[k]? = zs[k % zs.length]? from by simpa using h1]
    simp [hk, h2, List.getElem?_eq_getElem h2]
  · rw [List.getElem?_eq_none, List.getElem?_eq_none]
    · simp [zl_length]; omega
    · simp [Builtin.zeroCells]; omega
theorem run_append_zeros {P : Program} {ρ : Operand → Value} {w : World} {o : Oper} {x y : Operand} {t u e : TypeId} {i : TypeInfo} {z : Value} {kn : IntKind} {A : Option Addr} {n : Nat} (ho : o.op = .call ⟨.builtin .append, #[x, y], #[t, u]⟩)
    (hx : ρ x = .slice A 0 0) (hy : ρ y = .int .i32 n) (ht : P.underlying t = some (.slice e)) (hu : P.underlying u = some (.int kn)) (hi : P.info? e = some i) (hz : i.zero = some z) (h0 : 0 < n) (hs : 0 < i.size) (h63 : (n : Int) < 2147483648) (h48 : i.bytes ≤ 65536) :
    (execOp ρ o).run P w = .ok (.value (.slice (some ⟨w.heap.size, 0, none⟩) n (grownCap w n 0 e))) (w.drew.alloc (.cells (Builtin.zeroCells z.cells n ++ Builtin.zeroCells z.cells (grownCap w n 0 e - n)) e)) := by
  have hb : n * i.bytes ≤ 281474976710656 := by
    have h1 : n * i.bytes ≤ 2147483648 * 65536 := Nat.mul_le_mul (by omega) h48
    omega
  have hn : n ≠ 0 := by omega
  have hw : IntKind.i64.wrap (n : Int) = n := by rw [IntKind.wrap_i64]; omega
  have h63' : ¬ (9223372036854775807 < (n : Int)) := by omega
  have h48' : ¬ (281474976710656 < Builtin.nextslicecap n 0 * i.bytes) := by rw [nextslicecap_zero h0]; omega
  have h48i : ¬ (281474976710656 < (n : Int) * (i.bytes : Int)) := by
    rw [← Int.natCast_mul]
    omega
  have hneg : ¬ ((n : Int) < 0) := by omega
  have hns : ¬ (n * i.size = 0) := Nat.mul_ne_zero hn (by omega)
  have key : (Builtin.append_ #[t, u] o.type #[.slice A 0 0, .int .i32 n]).run P w =
      .ok (.slice (some ⟨w.heap.size, 0, none⟩) n (grownCap w n 0 e)) (w.drew.alloc (.cells (Builtin.zeroCells z.cells n ++ Builtin.zeroCells z.cells (grownCap w n 0 e - n)) e)) := by
    cases A with
    | none => simp [Builtin.append_, run_underlying ht, run_underlying hu, sizeOf, typeInfo, zeroValue, hi, hz, asInt, asIntOf, hw, hn, hneg, hns, h63', h48', h48i, Question.forced, run_firstCells_none, newRow, grownCap]
    | some a =>
      have hf := run_firstCells_some (P := P) w.drew i.size 0 a 0 0 [] (by simp) (by simp)
      simp [Builtin.append_, run_underlying ht, run_underlying hu, sizeOf, typeInfo, zeroValue, hi, hz, asInt, asIntOf, hw, hn, hneg, hns, h63', h48', h48i, Question.forced, hf, newRow, grownCap]
  simp only [execOp, ho, resolve, invoke, builtin, Sem.run_bind, Sem.run_pure, Result.andThen_ok, List.map_toArray, List.map_cons, List.map_nil, hx, hy, key]

theorem setS_mid (A C : List Value) : ∀ (ss : Sets) (B : List Value), (∀ p ∈ ss, p.1 < B.length) → setS (A ++ (B ++ C)).toArray A.length ss = (A ++ (setL B ss ++ C)).toArray := by
  intro ss
  induction ss with
  | nil => intro B _; rfl
  | cons p r ih =>
    intro B h
    have hp := h p (List.mem_cons_self ..)
    have e : (A ++ (B ++ C)).toArray.setIfInBounds (A.length + p.1) p.2 = (A ++ (B.set p.1 p.2 ++ C)).toArray := by
      apply Array.toList_inj.1
      rw [Array.toList_setIfInBounds]
      simp only [List.set_append]
      rw [if_neg (by omega), Nat.add_sub_cancel_left, if_pos hp]
    simp only [setS, setL]
    rw [e]
    exact ih _ (fun q hq => by rw [List.length_set]; exact h q (List.mem_cons_of_mem _ hq))
theorem setL_length : ∀ (ss : Sets) (B : List Value), (setL B ss).length = B.length := by
  intro ss
  induction ss with
  | nil => intro B; rfl
  | cons p r ih => intro B; simp only [setL]; rw [ih]; simp

theorem asApp_inv {c : Code} {L : AppR} (h : asApp c = some L) : ∃ id y1 y2 y3 y4 ps1 ps2 ps3 ps4 e1 e2 e3 e4, c = .region id #[⟨some L.p, .move (.tmp L.a), y1, ps1, e1, none⟩, ⟨some L.q, .move (.tmp L.l), y2, ps2, e2, none⟩,
      ⟨some L.r, .call ⟨.builtin .append, #[.tmp L.p, .tmp L.q], #[L.t, L.u]⟩, y3, ps3, e3, none⟩, ⟨some L.a, .assign (.tmp L.r), y4, ps4, e4, none⟩] false ∧ L.q ≠ L.p ∧ L.l ≠ L.p := by
  unfold asApp at h
  split at h
  · rename_i id ops
    split at h
    · rename_i p a y1 ps1 e1 q l y2 ps2 e2 r args ts y3 ps3 e3 a' r' y4 ps4 e4 hops
      split at h
      · rename_i p' q' t u hargs hts
        split at h
        · rename_i hc
          simp only [Bool.and_eq_true, Nat.beq_eq, Bool.not_eq_true'] at hc
          obtain ⟨⟨⟨⟨⟨rfl, rfl⟩, rfl⟩, rfl⟩, h1⟩, h2⟩ := hc
          cases h
          obtain rfl : ops = #[_, _, _, _] := Array.toList_inj.1 hops
          obtain rfl : args = #[_, _] := Array.toList_inj.1 hargs
          obtain rfl : ts = #[_, _] := Array.toList_inj.1 hts
          have ne : ∀ {x y : Nat}, x.beq y = false → x ≠ y := fun h e => by subst e; simp at h
          exact ⟨_, _, _, _, _, _, _, _, _, _, _, _, _, rfl, ne h1, ne h2⟩
        · cases h
      · cases h
    · cases h
  · cases h

structure LoopI (id : Nat) (b : Code) (L : LoopR) (p1 p2 p3 s p4 p5 p6 p7 p8 : Nat) (bd : Code) : Prop where
  flat : ∃ r1 r2 id2 t1 t2 t3 t4 y1 y2 y3 y4 y5 y6 s1 s2 s3 s4 s5 s6 e1 e2 e3 e4 e5 e6, flatC b =
      [.region r1 #[⟨some p1, .move (.tmp L.i), y1, s1, e1, none⟩, ⟨some p2, .move (.tmp L.l), y2, s2, e2, none⟩, ⟨some L.c, .binOp .lss t1 (.tmp p1) (.tmp p2) t2, y3, s3, e3, none⟩] false, .cond (.tmp L.c) .skip (.exit id), .block id2 bd,
       .region r2 #[⟨some p3, .move (.tmp L.i), y4, s4, e4, none⟩, ⟨some s, .binOp .add t3 (.tmp p3) (.const (.int .i32 1)) t4, y5, s5, e5, none⟩, ⟨some L.i, .assign (.tmp s), y6, s6, e6, none⟩] false]
  body : ∃ r3 r4 y1 y2 y3 y4 y5 y6 s1 s2 s3 s4 s5 s6 e1 e2 e3 e4 e5 e6 ts, flatC bd =
      .region r3 #[⟨some p4, .move (.tmp L.a), y1, s1, e1, none⟩, ⟨some p5, .move (.tmp L.i), y2, s2, e2, none⟩, ⟨some p6, .indexAddr L.t (.tmp p4) (.tmp p5), y3, s3, e3, none⟩, ⟨some L.e, .assign (.tmp p6), y4, s4, e4, none⟩] false ::
      .region r4 #[⟨some p7, .move (.tmp L.e), y5, s5, e5, none⟩, ⟨some p8, .call ⟨.value (.func L.f), #[.tmp p7], ts⟩, y6, s6, e6, none⟩] false :: L.bd
  ws : L.ws = [p1, p2, L.c, p3, s, p4, p5, p6, L.e, p7, p8]
  n21 : p2 ≠ p1
  n54 : p5 ≠ p4
  n1l : p1 ≠ L.l
  n4i : p4 ≠ L.i
  ib : L.i ∉ wrC bd
  lb : L.l ∉ wrC bd
  ab : L.a ∉ wrC bd
  i1 : L.i ∉ [p1, p2, L.c]
  l1 : L.l ∉ [p1, p2, L.c]
  a1 : L.a ∉ [p1, p2, L.c]
  i2 : L.i ∉ [p3, s]
  l2 : L.l ∉ [p3, s, L.i]
  a2 : L.a ∉ [p3, s, L.i]
  e78 : L.e ∉ [p7, p8]
theorem asLoopR_inv {id : Nat} {b : Code} {L : LoopR} (h : asLoopR id b = some L) : ∃ p1 p2 p3 s p4 p5 p6 p7 p8 bd, LoopI id b L p1 p2 p3 s p4 p5 p6 p7 p8 bd := by
  unfold asLoopR at h
  split at h
  · rename_i r1 o1 c id' id2 bd r2 o2 hf
    split at h
    · rename_i p1 i y1 s1 e1 p2 l y2 s2 e2 c' t1 p1' p2' t2 y3 s3 e3 p3 i1 y4 s4 e4 s t3 p3' t4 y5 s5 e5 i2 s' y6 s6 e6 h1 h2
      split at h
      · rename_i r3 o3 r4 o4 rest hfb
        split at h
        · rename_i p4 a z1 u1 v1 p5 i3 z2 u2 v2 p6 t p4' p5' z3 u3 v3 e p6' z4 u4 v4 p7 e' z5 u5 v5 p8 f args ts z6 u6 v6 h3 h4
          split at h
          · rename_i p7' hargs
            split at h
            · rename_i hc
              simp only [Bool.and_eq_true, Nat.beq_eq, Bool.not_eq_true'] at hc
              obtain ⟨⟨⟨⟨⟨⟨⟨⟨⟨⟨⟨⟨⟨⟨⟨⟨⟨⟨⟨⟨⟨⟨⟨⟨⟨⟨⟨rfl, rfl⟩, rfl⟩, rfl⟩, rfl⟩, rfl⟩, rfl⟩, rfl⟩, rfl⟩, rfl⟩, rfl⟩, rfl⟩, rfl⟩, rfl⟩, n1⟩, n2⟩, n3⟩, n4⟩, b1⟩, b2⟩, b3⟩, b4⟩, b5⟩, b6⟩, b7⟩, b8⟩, b9⟩, b10⟩ := hc
              cases h
              have ne : ∀ {x y : Nat}, x.beq y = false → x ≠ y := fun h e => by subst e; simp at h
              have nh : ∀ {l : List Nat} {x : Nat}, has l x = false → x ∉ l := fun h hm => by rw [has_iff.2 hm] at h; cases h
              obtain rfl : o1 = #[_, _, _] := Array.toList_inj.1 h1
              obtain rfl : o2 = #[_, _, _] := Array.toList_inj.1 h2
              obtain rfl : o3 = #[_, _, _, _] := Array.toList_inj.1 h3
              obtain rfl : o4 = #[_, _] := Array.toList_inj.1 h4
              obtain rfl : args = #[_] := Array.toList_inj.1 hargs
              exact ⟨_, _, _, _, _, _, _, _, _, bd, ⟨_, _, _, _, _, _, _, _, _, _, _, _, _, _, _, _, _, _, _, _, _, _, _, _, _, hf⟩, ⟨_, _, _, _, _, _, _, _, _, _, _, _, _, _, _, _, _, _, _, _, _, hfb⟩, rfl, ne n1, ne n2, ne n3, ne n4, nh b1, nh b2, nh b3, nh b4, nh b5, nh b6, nh b7, nh b8, nh b9, nh b10⟩
            · cases h
          · cases h
        · cases h
      · cases h
    · cases h
  · cases h
structure LoopP (id : Nat) (b : Code) (L : LoopR) (p1 p2 p3 s : Nat) (bd : Code) : Prop where
  flat : ∃ r1 r2 id2 t1 t2 t3 t4 y1 y2 y3 y4 y5 y6 s1 s2 s3 s4 s5 s6 e1 e2 e3 e4 e5 e6, flatC b =
      [.region r1 #[⟨some p1, .move (.tmp L.i), y1, s1, e1, none⟩, ⟨some p2, .move (.tmp L.l), y2, s2, e2, none⟩, ⟨some L.c, .binOp .lss t1 (.tmp p1) (.tmp p2) t2, y3, s3, e3, none⟩] false, .cond (.tmp L.c) .skip (.exit id), .block id2 bd,
       .region r2 #[⟨some p3, .move (.tmp L.i), y4, s4, e4, none⟩, ⟨some s, .binOp .add t3 (.tmp p3) (.const (.int .i32 1)) t4, y5, s5, e5, none⟩, ⟨some L.i, .assign (.tmp s), y6, s6, e6, none⟩] false]
  body : L.bd = flatC bd
  ws : L.ws = [p1, p2, L.c, p3, s]
  n21 : p2 ≠ p1
  n1l : p1 ≠ L.l
  ib : L.i ∉ wrC bd
  lb : L.l ∉ wrC bd
  ab : L.a ∉ wrC bd
  i1 : L.i ∉ [p1, p2, L.c]
  l1 : L.l ∉ [p1, p2, L.c]
  a1 : L.a ∉ [p1, p2, L.c]
  i2 : L.i ∉ [p3, s]
  l2 : L.l ∉ [p3, s, L.i]
  a2 : L.a ∉ [p3, s, L.i]
theorem asLoopP_inv {id : Nat} {b : Code} {L : LoopR} (h : asLoopP id b = some L) : ∃ p1 p2 p3 s bd, LoopP id b L p1 p2 p3 s bd := by
  unfold asLoopP at h
  split at h
  · rename_i r1 o1 c id' id2 bd r2 o2 hf
    split at h
    · rename_i p1 i y1 s1 e1 p2 l y2 s2 e2 c' t1 p1' p2' t2 y3 s3 e3 p3 i1 y4 s4 e4 s t3 p3' t4 y5 s5 e5 i2 s' y6 s6 e6 h1 h2
      split at h
      · split at h
        · split at h
          · rename_i hc
            simp only [Bool.and_eq_true, Nat.beq_eq, Bool.not_eq_true'] at hc
            obtain ⟨⟨⟨⟨⟨⟨⟨⟨⟨⟨⟨⟨⟨⟨⟨⟨⟨⟨rfl, rfl⟩, rfl⟩, rfl⟩, rfl⟩, rfl⟩, rfl⟩, rfl⟩, n1⟩, n3⟩, b1⟩, b2⟩, b3⟩, b4⟩, b5⟩, b6⟩, b7⟩, b8⟩, b9⟩ := hc
            cases h
            have ne : ∀ {x y : Nat}, x.beq y = false → x ≠ y := fun h e => by subst e; simp at h
            have nh : ∀ {l : List Nat} {x : Nat}, has l x = false → x ∉ l := fun h hm => by rw [has_iff.2 hm] at h; cases h
            obtain rfl : o1 = #[_, _, _] := Array.toList_inj.1 h1
            obtain rfl : o2 = #[_, _, _] := Array.toList_inj.1 h2
            exact ⟨_, _, _, _, bd, ⟨_, _, _, _, _, _, _, _, _, _, _, _, _, _, _, _, _, _, _, _, _, _, _, _, _, hf⟩, rfl, rfl, ne n1, ne n3, nh b1, nh b2, nh b3, nh b4, nh b5, nh b6, nh b7, nh b8, nh b9⟩
          · cases h
        · cases h
      · cases h
    · cases h
  · cases h
end Go.Proofs.Eng
/-! The executor of reading: a list is read thing by thing. -/
namespace Go.Proofs.Eng
open Go Go.RowKit

theorem run_add32 {P : Program} {ρ : Operand → Value} {w : World} {o : Oper} {x : Operand} {t t' : TypeId} {n : Nat} (ho : o.op = .binOp .add t x (.const (.int .i32 1)) t') (hc : ρ (.const (.int .i32 1)) = .int .i32 1) (hx : ρ x = .int .i32 n)
    (hn : n < 2147483647) : (execOp ρ o).run P w = .ok (.value (.int .i32 ((n + 1 : Nat) : Int))) w := by
  have hw : IntKind.i32.wrap ((n : Int) + 1) = ((n + 1 : Nat) : Int) := by
    simp only [IntKind.wrap, IntKind.bits, IntKind.signed]
    simp
    omega
  simp [execOp, ho, hx, hc, eqGuard, binOp, Op.intArith, hw]
theorem loopR_zero (f : List CV → RS → Option (List CV × RS)) (d : List CV) (s : RS) : loopR f d 0 s = some ([], s) := rfl
theorem wpT_cond_skip {P : Program} {Q : Exit → Act → World → Prop} {k : List TD} {a : Act} {w : World} (h : wpT P Q k a w) : wpT P Q (.code .skip :: k) a w := wpT_skip h

theorem lp_case {P : Program} {T : Tab} {R : TabR} {nT rr tR g : Nat} {E : Value} (hT : TabOK P T) (hR : TabROK P R tR g E) {n : Nat} (ih : Truth P T R nT rr tR g E n)
    {top : Bool} {j : Nat} {dv : List Value} {lo : Nat} {σ : SR} {nul : Nat} {c : Operand} {x : Code} {id id0 : Nat} {b : Code} {k' : List TD} {B : AppR} {o0 : Array Oper} {L : LoopR} {ks : List K} {zs : List Value} {m : Nat} {ss : Sets} {d : List CV} {rB r : Res}
    (hc : avR σ c = some .lp) (hx : asApp x = some B) (h0 : isI0 o0.toList = some L.i) (hb : asLoopR id b = some L) (hl : L.l = B.l) (ha : L.a = B.a) (ht : L.t = B.t) (hlo : B.l ∉ [B.p, B.q, B.r, B.a, L.i]) (hia : L.i ≠ B.a) (hno : noB nul (look σ B.a) = true)
    (hll : look σ B.l = some .len) (hcv : look T.convs B.u = some .i32) (nb : B.p < nT ∧ B.q < nT ∧ B.r < nT ∧ B.a < nT ∧ L.i < nT) (nw : ∀ x ∈ L.ws, x < nT) (he : look R.els B.t = some (ks, zs)) (hf : look R.dt L.f = some (m, ss)) (hm : m ≤ zs.length) (hss : ∀ p ∈ ss, p.1 < m)
    (hd : cvs0 ks (setL zs ss) = some d)
    (hB : execR T R nT rr n false (j + 1) (setL zs ss) 0 ((L.e, .ptr (j + 1) 0) :: outL σ (B.p :: B.q :: B.r :: B.a :: L.i :: wrC b)) .none (L.bd.map .code) = some rB)
    (hr : execR T R nT rr n top j dv lo ((B.a, .inp) :: outL σ (B.p :: B.q :: B.r :: B.a :: L.i :: wrC b)) (.inp false 1) k' = some r)
    (Q : Exit → Act → World → Prop) (X : Nat → Prop) (lvs : List (Nat × Nat)) (bl : Nat) (A C vals : List Value) (bt : TypeId) (cs : List CV) (s : RS) (G : RE) (pc : List CV) (w : World) (a : Act)
    (hlen : lvs.length = j + 1) (hj : lvs[j]? = some (bl, A.length)) (hS : StR w X tR g E G.rb bl A C vals bt cs s) (hbad : G.bad = s.bad) (hGE : G.E = E) (hdl : dv.length = vals.length) (hdv : ∀ k, lo ≤ k → vals[k]? = dv[k]?)
    (hG : GamR lvs G σ a) (hn : a.tmps.size = nT) (hdf : a.defers = []) (hM : MdOK w X G pc s (.len nul true))
    (q1 : ∀ a' w' vals' cs' s', outc (.len nul true) ⟨r.off, nul, d, rB.k, r.k⟩ cs s pc G.l = some (cs', s') → AfterR a a' w w' G.rb bl nT (wrT (.code (.cond c x .skip) :: .code (.region id0 o0 false) :: .code (.block id (.loop b)) :: k')) →
      StR w' X tR g E G.rb bl A C vals' bt cs' s' → vals'.length = vals.length → (top = true → a'.eval (.tmp rr) = errV E s'.bad) → Q (if top then .ret else .normal) a' w')
    (q2 : ∀ a' w', outc (.len nul true) ⟨r.off, nul, d, rB.k, r.k⟩ cs s pc G.l = none → AfterN a a' w w' G.rb bl → a'.eval (.tmp rr) = E → Q .ret a' w') :
    wpT P Q (.code (.cond c x .skip) :: .code (.region id0 o0 false) :: .code (.block id (.loop b)) :: k') a w := by
  obtain ⟨hr1, hr2, hok, hsl⟩ := hM
  have hsb : s.bad = false := hok rfl
  obtain ⟨p1, p2, p3, s', p4, p5, p6, p7, p8, bd, I⟩ := asLoopR_inv hb
  obtain ⟨r1, r2, id2, t1, t2, t3, t4, y1, y2, y3, y4, y5, y6, s1, s2, s3, s4, s5, s6, e1, e2, e3, e4, e5, e6, hflat⟩ := I.flat
  obtain ⟨i0, z1, z2, z3, z4, u1, u2, u3, u4, f1, f2, f3, f4, hxe, hqp, hlp⟩ := asApp_inv hx
  have hlv : a.eval (.tmp B.l) = .int .i32 G.l := hG _ _ (look_mem hll)
  have hcvv : a.eval c = .bool (decide (G.l > 0)) := avR_ok hG hc
  have wsn : ∀ q, q ∈ L.ws → q < nT := nw
  rw [I.ws] at wsn
  have hwrb : wrC b = [p1, p2, L.c] ++ (wrC bd ++ [p3, s', L.i]) := by
    rw [wrC_flat b, hflat]
    simp [wrC, wrO]
  -- the cell that bears 'i := 0'
  have ho0 : ∃ y ps e, o0 = #[⟨some L.i, .assign (.const (.int .i32 0)), y, ps, e, none⟩] := by
    unfold isI0 at h0
    split at h0
    · rename_i i y ps e hh
      cases h0
      exact ⟨y, ps, e, Array.toList_inj.1 hh⟩
    · cases h0
  obtain ⟨y0, ps0, e0, rfl⟩ := ho0
  have hlnot : B.l ∉ wrC b := by
    rw [hwrb]
    simp only [List.mem_append, not_or]
    exact ⟨hl ▸ I.l1, hl ▸ I.lb, by have := I.l2; rw [hl] at this; exact this⟩
  have hanot : B.a ∉ wrC b := by
    rw [hwrb]
    simp only [List.mem_append, not_or]
    exact ⟨ha ▸ I.a1, ha ▸ I.ab, by have := I.a2; rw [ha] at this; exact this⟩
  have hwr : wrT (.code (.cond c x .skip) :: .code (.region id0 #[⟨some L.i, .assign (.const (.int .i32 0)), y0, ps0, e0, none⟩] false) :: .code (.block id (.loop b)) :: k') = B.p :: B.q :: B.r :: B.a :: L.i :: (wrC b ++ wrT k') := by
    rw [hxe]
    simp [wrT, wrC, wrO]
  -- what stands of the slots behind the loop
  have hσ : ∀ {a1 : Act} {G' : RE}, G'.rb = G.rb → (∀ z, z ∉ B.p :: B.q :: B.r :: B.a :: L.i :: wrC b → a1.eval (.tmp z) = a.eval (.tmp z)) → GamR lvs G' (outL σ (B.p :: B.q :: B.r :: B.a :: L.i :: wrC b)) a1 := by
    intro a1 G' hrb hs z y hy
    unfold outL at hy
    rw [List.mem_filter] at hy
    obtain ⟨hy1, hy2⟩ := hy
    simp only [Bool.and_eq_true] at hy2
    have hz : z ∉ B.p :: B.q :: B.r :: B.a :: L.i :: wrC b := by
      intro hm
      have := has_iff.2 hm
      simp [this] at hy2
    rw [hs z hz]
    unfold onlyStay at hy1
    rw [List.mem_filter] at hy1
    exact (hG z y hy1.1).out hy1.2 hy2.1 hrb
  -- the rest, once the list is read
  have rest : ∀ (a1 : Act) (w1 : World) (es : List CV) (sq : RS) (slv : Value), a1.tmps.size = nT → a1.defers = a.defers → (∀ z, z ∉ B.p :: B.q :: B.r :: B.a :: L.i :: wrC b → a1.eval (.tmp z) = a.eval (.tmp z)) → a1.eval (.tmp B.a) = slv →
      Turn w w1 G.rb bl → StR w1 X tR g E G.rb bl A C vals bt cs sq → Rep w1 X slv (.arr (isNil nul G.l) G.l.toNat es) → loopR (fun e t => runR rB.k e t) d G.l.toNat s = some (es, sq) → wpT P Q k' a1 w1 := by
    intro a1 w1 es sq slv hn1 hd1 hs1 hav ht1 hS1 hrep hloop
    have houtc : outc (.len nul true) ⟨r.off, nul, d, rB.k, r.k⟩ cs s pc G.l = outc (.inp false 1) r cs sq [.arr (isNil nul G.l) G.l.toNat es] G.l := by
      simp only [outc, hsb, hloop]
      rfl
    refine ih top j dv lo _ _ k' r hr Q X lvs bl A C vals bt cs sq ⟨G.rb, slv, .slice none 0 0, G.l, sq.bad, E, G.ix⟩ [.arr (isNil nul G.l) G.l.toNat es] w1 a1 hlen hj hS1 rfl rfl hdl hdv ?_ hn1 (hd1.trans hdf) (.inl rfl) ⟨⟨_, rfl, hrep⟩, rfl⟩ ?_ ?_
    · intro z y hy
      simp only [List.mem_cons, Prod.mk.injEq] at hy
      rcases hy with ⟨rfl, rfl⟩ | hy
      · exact hav
      · exact hσ (G' := ⟨G.rb, slv, .slice none 0 0, G.l, sq.bad, E, G.ix⟩) rfl hs1 z y hy
    · intro a' w' vals' cs' s2 ho hA hS' hv htop
      refine q1 a' w' vals' cs' s2 (houtc.trans ho) ⟨⟨hA.defers.trans hd1, ht1.trans hA.turn⟩, hA.size, ?_⟩ hS' hv htop
      intro z hz
      rw [hwr] at hz
      simp only [List.mem_cons, List.mem_append, not_or] at hz
      rw [hA.same z hz.2.2.2.2.2.2, hs1 z (by simp only [List.mem_cons, not_or]; exact ⟨hz.1, hz.2.1, hz.2.2.1, hz.2.2.2.1, hz.2.2.2.2.1, hz.2.2.2.2.2.1⟩)]
    · intro a' w' ho hA hE
      exact q2 a' w' (houtc.trans ho) ⟨hA.defers.trans hd1, ht1.trans hA.turn⟩ hE
  refine wpT_cond hcvv ?_
  by_cases hpos : G.l > 0
  · -- there are things
    rw [if_pos (by simpa using hpos)]
    obtain ⟨N, hN⟩ : ∃ N : Nat, G.l = N := ⟨G.l.toNat, by omega⟩
    have hN0 : 0 < N := by omega
    have hNt : G.l.toNat = N := by omega
    obtain ⟨e, i, z, g1, g2, g3, g4, g5, g6, g7⟩ := hR.els B.t ks zs (look_mem he)
    obtain ⟨q6, q7, q8⟩ := cvs0_ok hd
    have hzl : (setL zs ss).length = zs.length := setL_length _ _
    have hav0 : ∃ A0, a.eval (.tmp B.a) = .slice A0 0 0 := by
      unfold noB at hno
      split at hno
      · rename_i hq
        have := hG _ _ (look_mem hq)
        simp only [DenR] at this
        rcases hsl with ⟨hq2, _⟩ | ⟨bq, tq, hq2, _⟩
        · exact ⟨none, by rw [this, hq2]⟩
        · exact ⟨_, by rw [this, hq2]⟩
      · rename_i hq
        exact ⟨none, hG _ _ (look_mem hq)⟩
      · cases hno
    obtain ⟨A0, hav0⟩ := hav0
    subst hxe
    refine wpT_region ?_
    refine wpT_value rfl (run_move _ _ rfl) ?_
    refine wpT_value rfl (run_move _ _ rfl) ?_
    have hp1 : ((a.put (some B.p) (a.eval (.tmp B.a))).put (some B.q) ((a.put (some B.p) (a.eval (.tmp B.a))).eval (.tmp B.l))).eval (.tmp B.p) = .slice A0 0 0 := by
      rw [eval_put_other _ _ _ _ (Ne.symm hqp), eval_put_same _ _ _ (by rw [hn]; exact nb.1)]
      exact hav0
    have hp2 : ((a.put (some B.p) (a.eval (.tmp B.a))).put (some B.q) ((a.put (some B.p) (a.eval (.tmp B.a))).eval (.tmp B.l))).eval (.tmp B.q) = .int .i32 (N : Int) := by
      rw [eval_put_same _ _ _ (by rw [put_size, hn]; exact nb.2.1), eval_put_other _ _ _ _ hlp, hlv, hN]
    refine wpT_value rfl (run_append_zeros rfl hp1 hp2 g1 (hT.convs _ _ (look_mem hcv)) g2 g3 hN0 (by omega) (by omega) g7) ?_
    refine wpT_value rfl (run_assign _ _ rfl) (wpT_ops_nil ?_)
    rw [eval_put_same _ _ _ (by simp only [put_size]; rw [hn]; exact nb.2.2.1)]
    refine wpT_region ?_
    refine wpT_value rfl (run_assign _ _ rfl) (wpT_ops_nil ?_)
    rw [eval_const]
    have hcap := grownCap_ge w N 0 e
    rw [g4, zeroCells_zl zs g6, zeroCells_zl zs g6]
    have hcat : ((zl zs N).toArray ++ (zl zs (grownCap w N 0 e - N)).toArray : Array Value) = (zl zs N ++ zl zs (grownCap w N 0 e - N)).toArray := by simp
    rw [hcat]
    generalize hslv : Value.slice (some ⟨w.heap.size, 0, none⟩) N (grownCap w N 0 e) = slv
    generalize hC0 : zl zs (grownCap w N 0 e - N) = C0
    generalize ha5 : Act.put _ (some L.i) (Value.int .i32 0) = a5
    have hsame5 : ∀ q, q ∉ [B.p, B.q, B.r, B.a, L.i] → a5.eval (.tmp q) = a.eval (.tmp q) := by
      intro q hq
      simp only [List.mem_cons, List.not_mem_nil, or_false, not_or] at hq
      rw [← ha5]
      rw [eval_put_other _ _ _ _ hq.2.2.2.2, eval_put_other _ _ _ _ hq.2.2.2.1, eval_put_other _ _ _ _ hq.2.2.1, eval_put_other _ _ _ _ hq.2.1, eval_put_other _ _ _ _ hq.1]
    have hn5 : a5.tmps.size = nT := by rw [← ha5]; simp only [put_size]; exact hn
    have hd5 : a5.defers = a.defers := by rw [← ha5]; simp only [put_defers]
    have hi5 : a5.eval (.tmp L.i) = .int .i32 0 := by rw [← ha5]; exact eval_put_same _ _ _ (by simp only [put_size]; rw [hn]; exact nb.2.2.2.2)
    have hsl5 : a5.eval (.tmp B.a) = slv := by
      rw [← ha5, eval_put_other _ _ _ _ (Ne.symm hia)]
      exact eval_put_same _ _ _ (by simp only [put_size]; rw [hn]; exact nb.2.2.2.1)
    have hl5 : a5.eval (.tmp B.l) = .int .i32 (N : Int) := by rw [hsame5 _ hlo, hlv, hN]
    -- memory behind 'append'
    generalize hw5 : w.drew.alloc (.cells (zl zs N ++ C0).toArray e) = w5
    have hbel : Below w.heap.size w w5 := by
      rw [← hw5]
      refine ⟨rfl, rfl, rfl, by simp, fun k hk => ?_⟩
      exact (Below.heap_alloc w.drew _ k (by simpa using hk)).trans rfl
    have hblk : w5.heap[w.heap.size]? = some (.cells (zl zs N ++ C0).toArray e (0, 0)) := by
      rw [← hw5]
      have := heap_alloc_new w.drew (.cells (zl zs N ++ C0).toArray e)
      simpa using this
    have hS5 := hS.fresh hbel
    have hsz5 : w.heap.size < w5.heap.size := lt_of_some hblk
    have hXn : ¬ X w.heap.size := fun hx => absurd (hS.lt _ hx) (Nat.lt_irrefl _)
    have hgn : g ≠ w.heap.size := fun hx => by have h1 := lt_of_cell hS.err; simp only at h1; omega
    have hrbn : w.heap.size ≠ G.rb := fun hx => by have := hS.lt _ hS.xr; omega
    have hbln : bl ≠ w.heap.size := fun hx => by have := hS.lt _ hS.xb; omega
    -- the loop
    let f : List CV → RS → Option (List CV × RS) := fun e t => runR rB.k e t
    let X' : Nat → Prop := fun b => X b ∨ b = w.heap.size
    have wci : L.c ∈ wrC b := by rw [hwrb]; simp
    have wii : L.i ∈ wrC b := by rw [hwrb]; simp
    refine wp_block (wp_loop
      (fun a1 w1 => ∃ (q : Nat) (es : List CV) (vs : List Value) (sq : RS), q ≤ N ∧ a1.tmps.size = nT ∧ a1.defers = a.defers ∧ a1.eval (.tmp L.i) = .int .i32 q ∧ (∀ z, z ∉ B.p :: B.q :: B.r :: B.a :: L.i :: wrC b → a1.eval (.tmp z) = a.eval (.tmp z)) ∧
        a1.eval (.tmp B.l) = .int .i32 (N : Int) ∧ a1.eval (.tmp B.a) = slv ∧ vs.length = q * zs.length ∧ es.length = q * zs.length ∧ w1.heap[w.heap.size]? = some (.cells (vs ++ (zl zs (N - q) ++ C0)).toArray e (0, 0)) ∧
        (∀ (k : Nat) (v : Value) (c : CV), vs[k]? = some v → es[k]? = some c → Rep w1 X' v c) ∧ RdOK w1 X' tR G.rb sq ∧ Turn w5 w1 G.rb w.heap.size ∧
        loopR f d N s = (match loopR f d (N - q) sq with | none => none | some (es', t) => some (es ++ es', t)))
      (fun a1 _ => N - (intOf (a1.eval (.tmp L.i))).toNat) ?_ ?_)
    · refine ⟨0, [], [], s, Nat.zero_le _, hn5, hd5, hi5, ?_, hl5, hsl5, by simp, by simp, by simpa using hblk, by simp, ?_, Turn.refl _ _ _, ?_⟩
      · intro z hz
        refine hsame5 z ?_
        simp only [List.mem_cons, not_or] at hz
        simp only [List.mem_cons, List.not_mem_nil, or_false, not_or]
        exact ⟨hz.1, hz.2.1, hz.2.2.1, hz.2.2.2.1, hz.2.2.2.2.1⟩
      · obtain ⟨v, v1, v2⟩ := hS.rd
        obtain ⟨v', v3, v4⟩ := hS5.rd
        have : v = v' := by
          have h1 := (hbel.block G.rb (hS.lt _ hS.xr)).trans v1
          rw [v3] at h1
          simpa using h1.symm
        subst this
        refine ⟨v, v3, ?_⟩
        have hk : Keeps X' w w5 := ⟨hbel.size, fun b hb _ => hbel.block b hb⟩
        exact (v2.mono (Y := X') (fun b hb hx => hx.elim (fun h => h) (fun e => by omega))).keep hk
      · rw [Nat.sub_zero]
        cases loopR f d N s with
        | none => rfl
        | some p => rfl
    · rintro a1 w1 ⟨q, es, vs, sq, hq, hn1, hd1, hi1, hs1, hl1, hsl1, hvl, hel, hh1, hrep1, hrd1, ht1, hloop1⟩
      refine wpT_one (wpT_flat b ?_)
      rw [hflat]
      refine wpT_region ?_
      refine wpT_value rfl (run_move _ _ rfl) ?_
      refine wpT_value rfl (run_move _ _ rfl) ?_
      have hp1n : p1 < nT := wsn p1 (by simp)
      have hp2n : p2 < nT := wsn p2 (by simp)
      have hcn : L.c < nT := wsn L.c (by simp)
      rw [hi1]
      have e2 : (a1.put (some p1) (.int .i32 q)).eval (.tmp L.l) = .int .i32 (N : Int) := by
        rw [eval_put_other _ _ _ _ (Ne.symm I.n1l), hl]; exact hl1
      rw [e2]
      have e3 : ((a1.put (some p1) (.int .i32 q)).put (some p2) (.int .i32 (N : Int))).eval (.tmp p1) = .int .i32 q := by
        rw [eval_put_other _ _ _ _ (Ne.symm I.n21), eval_put_same _ _ _ (by rw [hn1]; exact hp1n)]
      have e4 : ((a1.put (some p1) (.int .i32 q)).put (some p2) (.int .i32 (N : Int))).eval (.tmp p2) = .int .i32 (N : Int) := eval_put_same _ _ _ (by rw [put_size, hn1]; exact hp2n)
      refine wpT_value rfl (run_cmp (b := decide ((q : Int) < (N : Int))) rfl e3 e4 rfl) (wpT_ops_nil ?_)
      generalize ha2 : Act.put _ (some L.c) (Value.bool (decide ((q : Int) < (N : Int)))) = a2
      have hc2 : a2.eval (.tmp L.c) = .bool (decide ((q : Int) < (N : Int))) := by rw [← ha2]; exact eval_put_same _ _ _ (by simp only [put_size]; rw [hn1]; exact hcn)
      have hn2 : a2.tmps.size = nT := by rw [← ha2]; simp only [put_size]; exact hn1
      have hd2 : a2.defers = a.defers := by rw [← ha2]; simp only [put_defers]; exact hd1
      have hs2' : ∀ z, z ∉ [p1, p2, L.c] → a2.eval (.tmp z) = a1.eval (.tmp z) := by
        intro z hz
        simp only [List.mem_cons, List.not_mem_nil, or_false, not_or] at hz
        rw [← ha2, eval_put_other _ _ _ _ hz.2.2, eval_put_other _ _ _ _ hz.2.1, eval_put_other _ _ _ _ hz.1]
      have hs2 : ∀ z, z ∉ B.p :: B.q :: B.r :: B.a :: L.i :: wrC b → a2.eval (.tmp z) = a.eval (.tmp z) := by
        intro z hz
        rw [hs2' z ?_, hs1 z hz]
        intro hm
        apply hz
        rw [hwrb]
        simp only [List.mem_cons, List.mem_append]
        simp only [List.mem_cons, List.not_mem_nil, or_false] at hm
        rcases hm with h | h | h <;> simp [h]
      have hi2 : a2.eval (.tmp L.i) = .int .i32 q := (hs2' _ I.i1).trans hi1
      have hl2 : a2.eval (.tmp B.l) = .int .i32 (N : Int) := (hs2' _ (hl ▸ I.l1)).trans hl1
      have hsl2 : a2.eval (.tmp B.a) = slv := (hs2' _ (ha ▸ I.a1)).trans hsl1
      clear ha2 hs2' e2 e3 e4
      refine wpT_cond hc2 ?_
      by_cases hqc : q < N
      · rw [if_pos (by simpa using hqc)]
        obtain ⟨r3, r4, x1, x2, x3, x4, x5, x6, v1, v2, v3, v4, v5, v6, w1', w2', w3', w4', w5', w6', ts, hbody⟩ := I.body
        have wbd : wrC bd = [p4, p5, p6, L.e] ++ ([p7, p8] ++ L.bd.flatMap wrC) := by
          rw [wrC_flat bd, hbody]
          simp [wrC, wrO]
        have hwbd : ∀ z, z ∈ wrC bd → z ∈ wrC b := by intro z hz; rw [hwrb]; simp [hz]
        refine wpT_skip (loop_eq (wpT_flat bd ?_))
        rw [hbody]
        simp only [List.map_cons, List.cons_append, List.append_nil]
        refine wpT_region ?_
        refine wpT_value rfl (run_move _ _ rfl) ?_
        refine wpT_value rfl (run_move _ _ rfl) ?_
        have hp4n : p4 < nT := wsn p4 (by simp)
        have hp5n : p5 < nT := wsn p5 (by simp)
        have hp6n : p6 < nT := wsn p6 (by simp)
        have hen : L.e < nT := wsn L.e (by simp)
        have hp7n : p7 < nT := wsn p7 (by simp)
        rw [show a2.eval (.tmp L.a) = slv from by rw [ha]; exact hsl2]
        rw [eval_put_other _ _ _ _ (Ne.symm I.n4i), hi2]
        have e3 : ((a2.put (some p4) slv).put (some p5) (.int .i32 q)).eval (.tmp p4) = .slice (some ⟨w.heap.size, 0, none⟩) N (grownCap w N 0 e) := by
          rw [eval_put_other _ _ _ _ (Ne.symm I.n54), eval_put_same _ _ _ (by rw [hn2]; exact hp4n), ← hslv]
        have e4 : ((a2.put (some p4) slv).put (some p5) (.int .i32 q)).eval (.tmp p5) = .int .i32 (q : Int) := eval_put_same _ _ _ (by rw [put_size, hn2]; exact hp5n)
        refine wpT_value rfl (run_indexAddr rfl (ht ▸ g1) g2 e3 .i32 e4 hqc) ?_
        refine wpT_value rfl (run_assign _ _ rfl) (wpT_ops_nil ?_)
        rw [eval_put_same _ _ _ (by simp only [put_size]; rw [hn2]; exact hp6n), Nat.zero_add, g5]
        generalize ha3 : Act.put _ (some L.e) (Value.pointer (some ⟨w.heap.size, q * zs.length, none⟩)) = a3
        have hn3 : a3.tmps.size = nT := by rw [← ha3]; simp only [put_size]; exact hn2
        have hd3 : a3.defers = a.defers := by rw [← ha3]; simp only [put_defers]; exact hd2
        have he3 : a3.eval (.tmp L.e) = .pointer (some ⟨w.heap.size, q * zs.length, none⟩) := by rw [← ha3]; exact eval_put_same _ _ _ (by simp only [put_size]; rw [hn2]; exact hen)
        have hs3 : ∀ z, z ∉ wrC bd → a3.eval (.tmp z) = a2.eval (.tmp z) := by
          intro z hz
          rw [wbd] at hz
          simp only [List.mem_append, List.mem_cons, List.not_mem_nil, or_false, not_or] at hz
          rw [← ha3, eval_put_other _ _ _ _ hz.1.2.2.2, eval_put_other _ _ _ _ hz.1.2.2.1, eval_put_other _ _ _ _ hz.1.2.1, eval_put_other _ _ _ _ hz.1.1]
        clear ha3 e3 e4
        refine wpT_region ?_
        refine wpT_value rfl (run_move _ _ rfl) ?_
        rw [he3]
        obtain ⟨hcon, hcall⟩ := hR.dt L.f m ss (look_mem hf)
        refine wpT_enter rfl (run_callf hcall _ rfl _ _ _ rfl w1) ?_
        simp only [List.map_toArray, List.map_cons, List.map_nil]
        rw [eval_put_same _ _ _ (by rw [hn3]; exact hp7n)]
        have hNq : N - q = (N - (q + 1)) + 1 := by omega
        have hrow1 : w1.heap[w.heap.size]? = some (.cells (vs ++ (zs ++ (zl zs (N - (q + 1)) ++ C0))).toArray e (0, 0)) := by
          rw [hh1, hNq]
          simp [zl]
        refine (hcon w1 w.heap.size (q * zs.length) _ e hrow1 (by simp [hvl]; omega)).mono ?_
        rintro e' w2 ⟨rfl, hb2, hg2⟩
        refine ⟨_, rfl, wpT_ops_nil ?_⟩
        rw [← hvl, setS_mid vs _ ss zs (fun p hp => Nat.lt_of_lt_of_le (hss p hp) hm)] at hb2
        generalize ha4 : Act.put _ (some p8) (Value.tuple #[]) = a4
        have hn4 : a4.tmps.size = nT := by rw [← ha4]; simp only [put_size]; exact hn3
        have hd4 : a4.defers = a.defers := by rw [← ha4]; simp only [put_defers]; exact hd3
        have hs4 : ∀ z, z ∉ [p7, p8] → a4.eval (.tmp z) = a3.eval (.tmp z) := by
          intro z hz
          simp only [List.mem_cons, List.not_mem_nil, or_false, not_or] at hz
          rw [← ha4, eval_put_other _ _ _ _ hz.2, eval_put_other _ _ _ _ hz.1]
        have he4 : a4.eval (.tmp L.e) = .pointer (some ⟨w.heap.size, q * zs.length, none⟩) := by
          rw [hs4 L.e I.e78, he3]
        clear ha4
        have hk2 : Keeps X' w1 w2 := keeps_by hg2 (.inr rfl)
        have hsz1 : w5.heap.size ≤ w1.heap.size := ht1.size
        have hXlt : ∀ b, X b → b < w.heap.size := hS.lt
        have ht2 : Turn w5 w2 G.rb w.heap.size := ht1.trans (Turn.of_grownL hg2)
        have hsq : RdOK w2 X' tR G.rb sq := by
          obtain ⟨v, v1, v2⟩ := hrd1
          exact ⟨v, (hg2.block G.rb (lt_of_some v1) (fun e => hrbn (Option.some.inj e).symm)).trans v1, v2.keep hk2⟩
        have herr : ∀ w' : World, Turn w5 w' G.rb w.heap.size → w'.cell? ⟨g, 0, none⟩ = some E := by
          intro w' h
          rw [← hS5.err]
          exact World.cell?_of_block (h.block g (lt_of_cell hS5.err) (fun e => hS.xg (e ▸ hS.xr)) hgn)
        have hz4 : ∀ z, z ∉ wrC bd → a4.eval (.tmp z) = a2.eval (.tmp z) := by
          intro z hz
          rw [hs4 z ?_, hs3 z hz]
          intro hm
          apply hz
          rw [wbd]
          simp only [List.mem_append]
          exact .inr (.inl hm)
        refine ih false (j + 1) (setL zs ss) 0 _ .none (L.bd.map .code) rB hB _ X' (lvs ++ [(w.heap.size, vs.length)]) w.heap.size vs (zl zs (N - (q + 1)) ++ C0) (setL zs ss) e d sq ⟨G.rb, .slice none 0 0, .slice none 0 0, 0, sq.bad, E, 0⟩ [] w2 a4
          (by simp [hlen]) (by rw [List.getElem?_append_right (by omega), hlen, Nat.sub_self]; rfl) ⟨.inr rfl, .inl hS.xr, hrbn, ?_, hb2, q6.trans q7.1.symm, fun k v c h1 h2 => q8 w2 X' k v c h1 h2, hsq, ?_, herr w2 ht2⟩ rfl rfl rfl (fun _ _ => rfl) ?_ hn4 (hd4.trans hdf) (.inl rfl) trivial ?_ ?_
        · intro b hb
          have := ht2.size
          rcases hb with hb | hb
          · have := hXlt b hb; omega
          · omega
        · intro hb
          rcases hb with hb | hb
          · exact hS.xg hb
          · exact hgn hb
        · intro z y hy
          simp only [List.mem_cons, Prod.mk.injEq] at hy
          rcases hy with ⟨rfl, rfl⟩ | hy
          · refine ⟨(w.heap.size, vs.length), by rw [List.getElem?_append_right (by omega), hlen, Nat.sub_self]; rfl, ?_⟩
            rw [he4, hvl]
            rfl
          · refine (hσ (a1 := a4) (G' := ⟨G.rb, .slice none 0 0, .slice none 0 0, 0, sq.bad, E, 0⟩) rfl ?_ z y hy).snoc
            intro z hz
            rw [hz4 z (fun hm => hz (by simp [hwbd z hm])), hs2 z hz]
        · -- a thing is read
          intro a' w' vals' cs' s2 ho hA hS' hvl' _
          show wpT P _ [.code _] a' w'
          have hwb : wrT (L.bd.map .code) = L.bd.flatMap wrC := by
            generalize L.bd = l
            induction l with
            | nil => rfl
            | cons c l ih => simp only [List.map_cons, wrT, List.flatMap_cons, ih]
          have hsm : ∀ z, z ∉ wrC bd → a'.eval (.tmp z) = a2.eval (.tmp z) := by
            intro z hz
            rw [hA.same z ?_, hz4 z hz]
            rw [hwb]
            intro hm
            apply hz
            rw [wbd]
            simp [hm]
          have hp3n : p3 < nT := wsn p3 (by simp)
          have hsn : s' < nT := wsn s' (by simp)
          refine wpT_region ?_
          refine wpT_value rfl (run_move _ _ rfl) ?_
          rw [hsm _ I.ib, hi2]
          have e3 : (a'.put (some p3) (.int .i32 q)).eval (.tmp p3) = .int .i32 (q : Int) := eval_put_same _ _ _ (by rw [hA.size]; exact hp3n)
          refine wpT_value rfl (run_add32 rfl rfl e3 (by omega)) ?_
          refine wpT_value rfl (run_assign _ _ rfl) (wpT_ops_nil ?_)
          rw [eval_put_same _ _ _ (by rw [put_size, hA.size]; exact hsn)]
          have hLin : L.i < nT := nb.2.2.2.2
          have ei : (((a'.put (some p3) (.int .i32 q)).put (some s') (.int .i32 ((q + 1 : Nat) : Int))).put (some L.i) (.int .i32 ((q + 1 : Nat) : Int))).eval (.tmp L.i) = .int .i32 ((q + 1 : Nat) : Int) := eval_put_same _ _ _ (by simp only [put_size]; rw [hA.size]; exact hLin)
          have hfar : ∀ z, z ∉ [p3, s', L.i] → (((a'.put (some p3) (.int .i32 q)).put (some s') (.int .i32 ((q + 1 : Nat) : Int))).put (some L.i) (.int .i32 ((q + 1 : Nat) : Int))).eval (.tmp z) = a'.eval (.tmp z) := by
            intro z hz
            simp only [List.mem_cons, List.not_mem_nil, or_false, not_or] at hz
            rw [eval_put_other _ _ _ _ hz.2.2, eval_put_other _ _ _ _ hz.2.1, eval_put_other _ _ _ _ hz.1]
          refine ⟨⟨q + 1, es ++ cs', vs ++ vals', s2, hqc, by simp only [put_size]; exact hA.size, by simp only [put_defers]; rw [hA.defers]; exact hd4, ei, ?_, ?_, ?_, ?_, ?_, ?_, ?_, ?_, ht2.trans hA.turn, ?_⟩, ?_⟩
          · intro z hz
            rw [hfar z ?_, hsm z (fun hm => hz (by simp [hwbd z hm])), hs2 z hz]
            intro hm
            apply hz
            rw [hwrb]
            simp only [List.mem_cons, List.mem_append]
            simp only [List.mem_cons, List.not_mem_nil, or_false] at hm
            rcases hm with h | h | h <;> simp [h]
          · rw [hfar _ (hl ▸ I.l2), hsm _ (hl ▸ I.lb)]; exact hl2
          · rw [hfar _ (ha ▸ I.a2), hsm _ (ha ▸ I.ab)]; exact hsl2
          · rw [List.length_append, hvl', hvl, hzl, Nat.add_mul, Nat.one_mul]
          · rw [List.length_append, hel, ← hS'.len, hvl', hzl, Nat.add_mul, Nat.one_mul]
          · have := hS'.row
            rw [this]
            simp
          · intro k v c hv hc
            have hvv : vs.length = es.length := by rw [hvl, hel]
            by_cases hk : k < vs.length
            · rw [List.getElem?_append_left hk] at hv
              rw [List.getElem?_append_left (by omega)] at hc
              exact ((hrep1 k v c hv hc).keep hk2).keep (hA.turn.keeps (.inl hS.xr) (.inr rfl))
            · rw [List.getElem?_append_right (by omega)] at hv hc
              rw [hvv] at hv
              exact hS'.rep _ v c hv hc
          · exact hS'.rd
          · rw [hloop1, hNq]
            simp only [loopR]
            have ho' : f d sq = some (cs', s2) := ho
            rw [ho']
            simp only
            cases loopR f d (N - (q + 1)) s2 with
            | none => rfl
            | some pp => simp
          · show N - (intOf (Act.eval _ (.tmp L.i))).toNat < N - (intOf (Value.int .i32 (q : Int))).toNat
            rw [ei]
            simp only [intOf]
            omega
        · -- the function is left
          intro a' w' ho hA hE
          show Q .ret a' w'
          refine q2 a' w' ?_ ⟨hA.defers.trans hd4, (Turn.of_below hbel).fresh (ht2.trans hA.turn) (Nat.le_refl _)⟩ hE
          simp only [outc, hsb]
          rw [hNt]
          have ho' : f d sq = none := ho
          have : loopR (fun e t => runR rB.k e t) d N s = none := by
            show loopR f d N s = none
            rw [hloop1, hNq]
            simp only [loopR]
            rw [ho']
          rw [this]
          rfl
      · rw [if_neg (by simpa using hqc)]
        have hqe : q = N := by omega
        subst hqe
        refine wp_exit ?_
        simp only [Exit.then, Exit.inBlock, if_true]
        have htw : Turn w w1 G.rb bl := (Turn.of_below hbel).fresh ht1 (Nat.le_refl _)
        have hblk1 : ∀ k, k < w.heap.size → k ≠ G.rb → w1.heap[k]? = w.heap[k]? := fun k hk h1 => (ht1.block k (Nat.lt_trans hk hsz5) h1 (by omega)).trans (hbel.block k hk)
        have hkX : Keeps X w w1 := ⟨htw.size, fun b hb hX => hblk1 b hb (fun e => hX (e ▸ hS.xr))⟩
        refine rest a2 w1 es sq slv hn2 hd2 hs2 hsl2 htw ?_ ?_ ?_
        · exact ⟨hS.xb, hS.xr, hS.ne, fun b hx => Nat.lt_of_lt_of_le (hS.lt b hx) htw.size, (hblk1 bl (lt_of_some hS.row) hS.ne).trans hS.row, hS.len, fun k v c hv hc => (hS.rep k v c hv hc).keep hkX,
            hrd1.mono (fun b _ hx => .inl hx), hS.xg, (hkX.cell (a := ⟨g, 0, none⟩) hS.xg (lt_of_cell hS.err)).trans hS.err⟩
        · have hnl : isNil nul G.l = false := by
            unfold isNil
            split
            · simp; omega
            · simp; omega
            · rfl
          rw [hnl, hNt, ← hslv]
          refine .arr w.heap.size q (grownCap w q 0 e) e _ es hXn hh1 (by simp; omega) hcap ?_
          intro k v c hv hc
          have hlt : k < vs.length := by have := (List.getElem?_eq_some_iff.1 hc).1; omega
          have hv' : vs[k]? = some v := by
            rw [List.getElem?_toArray, List.getElem?_append_left hlt] at hv
            exact hv
          exact (hrep1 k v c hv' hc).mono (fun b _ hx => .inl hx)
        · rw [hNt]
          show loopR f d q s = _
          rw [hloop1, Nat.sub_self]
          simp [loopR]
  · -- there are none
    rw [if_neg (by simpa using hpos)]
    have hav : a.eval (.tmp B.a) = G.sl := by
      unfold noB at hno
      split at hno
      · rename_i hq
        exact hG _ _ (look_mem hq)
      · rename_i hq
        have h1 : a.eval (.tmp B.a) = .slice none 0 0 := hG _ _ (look_mem hq)
        have h2 : nul = 0 := by simpa [Nat.beq_eq] using hno
        rcases hsl with ⟨h3, _⟩ | ⟨_, _, _, _, _, h4⟩
        · rw [h1, h3]
        · omega
      · cases hno
    refine wpT_skip (wpT_region ?_)
    refine wpT_value rfl (run_assign _ _ rfl) (wpT_ops_nil ?_)
    rw [eval_const]
    have hp1n : p1 < nT := wsn p1 (by simp)
    have hp2n : p2 < nT := wsn p2 (by simp)
    have hcn : L.c < nT := wsn L.c (by simp)
    have hi0 : (a.put (some L.i) (.int .i32 0)).eval (.tmp L.i) = .int .i32 0 := eval_put_same _ _ _ (by rw [hn]; exact nb.2.2.2.2)
    refine wp_block (wp_loop_once (wpT_one (wpT_flat b ?_)))
    rw [hflat]
    refine wpT_region ?_
    refine wpT_value rfl (run_move _ _ rfl) ?_
    refine wpT_value rfl (run_move _ _ rfl) ?_
    have hli : B.l ≠ L.i := by simp only [List.mem_cons, List.not_mem_nil, or_false, not_or] at hlo; exact hlo.2.2.2.2
    have e2 : ((a.put (some L.i) (.int .i32 0)).put (some p1) (.int .i32 0)).eval (.tmp L.l) = .int .i32 G.l := by
      rw [eval_put_other _ _ _ _ (Ne.symm I.n1l), hl, eval_put_other _ _ _ _ hli, hlv]
    rw [hi0, e2]
    have e3 : (((a.put (some L.i) (.int .i32 0)).put (some p1) (.int .i32 0)).put (some p2) (.int .i32 G.l)).eval (.tmp p1) = .int .i32 0 := by
      rw [eval_put_other _ _ _ _ (Ne.symm I.n21), eval_put_same _ _ _ (by rw [put_size, hn]; exact hp1n)]
    have e4 : (((a.put (some L.i) (.int .i32 0)).put (some p1) (.int .i32 0)).put (some p2) (.int .i32 G.l)).eval (.tmp p2) = .int .i32 G.l := eval_put_same _ _ _ (by simp only [put_size]; rw [hn]; exact hp2n)
    refine wpT_value rfl (run_cmp (b := decide ((0 : Int) < G.l)) rfl e3 e4 rfl) (wpT_ops_nil ?_)
    have hdf : decide ((0 : Int) < G.l) = false := by simpa using hpos
    rw [hdf]
    refine wpT_cond (b := false) (eval_put_same _ _ _ (by simp only [put_size]; rw [hn]; exact hcn)) ?_
    refine wp_exit ?_
    simp only [Exit.then, Exit.inBlock, if_true]
    have hl0 : G.l.toNat = 0 := by omega
    refine rest _ w [] s G.sl (by simp only [put_size]; exact hn) (by simp only [put_defers]) ?_ ?_ (Turn.refl _ _ _) hS (by rw [hl0]; exact hsl.rep (by omega)) (by rw [hl0]; rfl)
    · intro z hz
      have hz' := hz
      rw [hwrb] at hz'
      simp only [List.mem_cons, List.mem_append, not_or] at hz'
      rw [eval_put_other _ _ _ _ hz'.2.2.2.2.2.1.2.2.1, eval_put_other _ _ _ _ hz'.2.2.2.2.2.1.2.1, eval_put_other _ _ _ _ hz'.2.2.2.2.2.1.1, eval_put_other _ _ _ _ hz'.2.2.2.2.1]
    · have h1 := I.a1
      rw [ha] at h1
      simp only [List.mem_cons, List.not_mem_nil, or_false, not_or] at h1
      rw [eval_put_other _ _ _ _ h1.2.2, eval_put_other _ _ _ _ h1.2.1, eval_put_other _ _ _ _ h1.1, eval_put_other _ _ _ _ (Ne.symm hia), hav]
end Go.Proofs.Eng
/-! The executor of reading: a list of plain values is read, one by one. -/
namespace Go.Proofs.Eng
open Go Go.RowKit

theorem lp_caseP {P : Program} {T : Tab} {R : TabR} {nT rr tR g : Nat} {E : Value} (hT : TabOK P T) (hR : TabROK P R tR g E) {n : Nat} (ih : Truth P T R nT rr tR g E n)
    {top : Bool} {j : Nat} {dv : List Value} {lo : Nat} {σ : SR} {nul : Nat} {c : Operand} {x : Code} {id id0 : Nat} {b : Code} {k' : List TD} {B : AppR} {o0 : Array Oper} {L : LoopR} {ks : List K} {zs : List Value} {d : List CV} {rB r : Res}
    (hc : avR σ c = some .lp) (hx : asApp x = some B) (h0 : isI0 o0.toList = some L.i) (hb : asLoopP id b = some L) (hl : L.l = B.l) (ha : L.a = B.a) (hlo : B.l ∉ [B.p, B.q, B.r, B.a, L.i]) (hia : L.i ≠ B.a) (hno : noB nul (look σ B.a) = true)
    (hll : look σ B.l = some .len) (hcv : look T.convs B.u = some .i32) (nb : B.p < nT ∧ B.q < nT ∧ B.r < nT ∧ B.a < nT ∧ L.i < nT) (nw : ∀ x ∈ L.ws, x < nT) (he : look R.els B.t = some (ks, zs))
    (hd : cvs0 ks zs = some d)
    (hB : execR T R nT rr n false (j + 1) zs 0 ((L.a, .lst (j + 1) zs.length) :: (L.i, .idx) :: outL σ (B.p :: B.q :: B.r :: B.a :: L.i :: wrC b)) .none (L.bd.map .code) = some rB)
    (hr : execR T R nT rr n top j dv lo ((B.a, .inp) :: outL σ (B.p :: B.q :: B.r :: B.a :: L.i :: wrC b)) (.inp false 1) k' = some r)
    (Q : Exit → Act → World → Prop) (X : Nat → Prop) (lvs : List (Nat × Nat)) (bl : Nat) (A C vals : List Value) (bt : TypeId) (cs : List CV) (s : RS) (G : RE) (pc : List CV) (w : World) (a : Act)
    (hlen : lvs.length = j + 1) (hj : lvs[j]? = some (bl, A.length)) (hS : StR w X tR g E G.rb bl A C vals bt cs s) (hbad : G.bad = s.bad) (hGE : G.E = E) (hdl : dv.length = vals.length) (hdv : ∀ k, lo ≤ k → vals[k]? = dv[k]?)
    (hG : GamR lvs G σ a) (hn : a.tmps.size = nT) (hdf : a.defers = []) (hM : MdOK w X G pc s (.len nul true))
    (q1 : ∀ a' w' vals' cs' s', outc (.len nul true) ⟨r.off, nul, d, rB.k, r.k⟩ cs s pc G.l = some (cs', s') → AfterR a a' w w' G.rb bl nT (wrT (.code (.cond c x .skip) :: .code (.region id0 o0 false) :: .code (.block id (.loop b)) :: k')) →
      StR w' X tR g E G.rb bl A C vals' bt cs' s' → vals'.length = vals.length → (top = true → a'.eval (.tmp rr) = errV E s'.bad) → Q (if top then .ret else .normal) a' w')
    (q2 : ∀ a' w', outc (.len nul true) ⟨r.off, nul, d, rB.k, r.k⟩ cs s pc G.l = none → AfterN a a' w w' G.rb bl → a'.eval (.tmp rr) = E → Q .ret a' w') :
    wpT P Q (.code (.cond c x .skip) :: .code (.region id0 o0 false) :: .code (.block id (.loop b)) :: k') a w := by
  obtain ⟨hr1, hr2, hok, hsl⟩ := hM
  have hsb : s.bad = false := hok rfl
  obtain ⟨p1, p2, p3, s', bd, I⟩ := asLoopP_inv hb
  obtain ⟨r1, r2, id2, t1, t2, t3, t4, y1, y2, y3, y4, y5, y6, s1, s2, s3, s4, s5, s6, e1, e2, e3, e4, e5, e6, hflat⟩ := I.flat
  obtain ⟨i0, z1, z2, z3, z4, u1, u2, u3, u4, f1, f2, f3, f4, hxe, hqp, hlp⟩ := asApp_inv hx
  have hlv : a.eval (.tmp B.l) = .int .i32 G.l := hG _ _ (look_mem hll)
  have hcvv : a.eval c = .bool (decide (G.l > 0)) := avR_ok hG hc
  have wsn : ∀ q, q ∈ L.ws → q < nT := nw
  rw [I.ws] at wsn
  have hwrb : wrC b = [p1, p2, L.c] ++ (wrC bd ++ [p3, s', L.i]) := by
    rw [wrC_flat b, hflat]
    simp [wrC, wrO]
  -- the cell that bears 'i := 0'
  have ho0 : ∃ y ps e, o0 = #[⟨some L.i, .assign (.const (.int .i32 0)), y, ps, e, none⟩] := by
    unfold isI0 at h0
    split at h0
    · rename_i i y ps e hh
      cases h0
      exact ⟨y, ps, e, Array.toList_inj.1 hh⟩
    · cases h0
  obtain ⟨y0, ps0, e0, rfl⟩ := ho0
  have hlnot : B.l ∉ wrC b := by
    rw [hwrb]
    simp only [List.mem_append, not_or]
    exact ⟨hl ▸ I.l1, hl ▸ I.lb, by have := I.l2; rw [hl] at this; exact this⟩
  have hanot : B.a ∉ wrC b := by
    rw [hwrb]
    simp only [List.mem_append, not_or]
    exact ⟨ha ▸ I.a1, ha ▸ I.ab, by have := I.a2; rw [ha] at this; exact this⟩
  have hwr : wrT (.code (.cond c x .skip) :: .code (.region id0 #[⟨some L.i, .assign (.const (.int .i32 0)), y0, ps0, e0, none⟩] false) :: .code (.block id (.loop b)) :: k') = B.p :: B.q :: B.r :: B.a :: L.i :: (wrC b ++ wrT k') := by
    rw [hxe]
    simp [wrT, wrC, wrO]
  -- what stands of the slots behind the loop
  have hσ : ∀ {a1 : Act} {G' : RE}, G'.rb = G.rb → (∀ z, z ∉ B.p :: B.q :: B.r :: B.a :: L.i :: wrC b → a1.eval (.tmp z) = a.eval (.tmp z)) → GamR lvs G' (outL σ (B.p :: B.q :: B.r :: B.a :: L.i :: wrC b)) a1 := by
    intro a1 G' hrb hs z y hy
    unfold outL at hy
    rw [List.mem_filter] at hy
    obtain ⟨hy1, hy2⟩ := hy
    simp only [Bool.and_eq_true] at hy2
    have hz : z ∉ B.p :: B.q :: B.r :: B.a :: L.i :: wrC b := by
      intro hm
      have := has_iff.2 hm
      simp [this] at hy2
    rw [hs z hz]
    unfold onlyStay at hy1
    rw [List.mem_filter] at hy1
    exact (hG z y hy1.1).out hy1.2 hy2.1 hrb
  -- the rest, once the list is read
  have rest : ∀ (a1 : Act) (w1 : World) (es : List CV) (sq : RS) (slv : Value), a1.tmps.size = nT → a1.defers = a.defers → (∀ z, z ∉ B.p :: B.q :: B.r :: B.a :: L.i :: wrC b → a1.eval (.tmp z) = a.eval (.tmp z)) → a1.eval (.tmp B.a) = slv →
      Turn w w1 G.rb bl → StR w1 X tR g E G.rb bl A C vals bt cs sq → Rep w1 X slv (.arr (isNil nul G.l) G.l.toNat es) → loopR (fun e t => runR rB.k e t) d G.l.toNat s = some (es, sq) → wpT P Q k' a1 w1 := by
    intro a1 w1 es sq slv hn1 hd1 hs1 hav ht1 hS1 hrep hloop
    have houtc : outc (.len nul true) ⟨r.off, nul, d, rB.k, r.k⟩ cs s pc G.l = outc (.inp false 1) r cs sq [.arr (isNil nul G.l) G.l.toNat es] G.l := by
      simp only [outc, hsb, hloop]
      rfl
    refine ih top j dv lo _ _ k' r hr Q X lvs bl A C vals bt cs sq ⟨G.rb, slv, .slice none 0 0, G.l, sq.bad, E, G.ix⟩ [.arr (isNil nul G.l) G.l.toNat es] w1 a1 hlen hj hS1 rfl rfl hdl hdv ?_ hn1 (hd1.trans hdf) (.inl rfl) ⟨⟨_, rfl, hrep⟩, rfl⟩ ?_ ?_
    · intro z y hy
      simp only [List.mem_cons, Prod.mk.injEq] at hy
      rcases hy with ⟨rfl, rfl⟩ | hy
      · exact hav
      · exact hσ (G' := ⟨G.rb, slv, .slice none 0 0, G.l, sq.bad, E, G.ix⟩) rfl hs1 z y hy
    · intro a' w' vals' cs' s2 ho hA hS' hv htop
      refine q1 a' w' vals' cs' s2 (houtc.trans ho) ⟨⟨hA.defers.trans hd1, ht1.trans hA.turn⟩, hA.size, ?_⟩ hS' hv htop
      intro z hz
      rw [hwr] at hz
      simp only [List.mem_cons, List.mem_append, not_or] at hz
      rw [hA.same z hz.2.2.2.2.2.2, hs1 z (by simp only [List.mem_cons, not_or]; exact ⟨hz.1, hz.2.1, hz.2.2.1, hz.2.2.2.1, hz.2.2.2.2.1, hz.2.2.2.2.2.1⟩)]
    · intro a' w' ho hA hE
      exact q2 a' w' (houtc.trans ho) ⟨hA.defers.trans hd1, ht1.trans hA.turn⟩ hE
  refine wpT_cond hcvv ?_
  by_cases hpos : G.l > 0
  · -- there are things
    rw [if_pos (by simpa using hpos)]
    obtain ⟨N, hN⟩ : ∃ N : Nat, G.l = N := ⟨G.l.toNat, by omega⟩
    have hN0 : 0 < N := by omega
    have hNt : G.l.toNat = N := by omega
    obtain ⟨e, i, z, g1, g2, g3, g4, g5, g6, g7⟩ := hR.els B.t ks zs (look_mem he)
    obtain ⟨q6, q7, q8⟩ := cvs0_ok hd
    have hav0 : ∃ A0, a.eval (.tmp B.a) = .slice A0 0 0 := by
      unfold noB at hno
      split at hno
      · rename_i hq
        have := hG _ _ (look_mem hq)
        simp only [DenR] at this
        rcases hsl with ⟨hq2, _⟩ | ⟨bq, tq, hq2, _⟩
        · exact ⟨none, by rw [this, hq2]⟩
        · exact ⟨_, by rw [this, hq2]⟩
      · rename_i hq
        exact ⟨none, hG _ _ (look_mem hq)⟩
      · cases hno
    obtain ⟨A0, hav0⟩ := hav0
    subst hxe
    refine wpT_region ?_
    refine wpT_value rfl (run_move _ _ rfl) ?_
    refine wpT_value rfl (run_move _ _ rfl) ?_
    have hp1 : ((a.put (some B.p) (a.eval (.tmp B.a))).put (some B.q) ((a.put (some B.p) (a.eval (.tmp B.a))).eval (.tmp B.l))).eval (.tmp B.p) = .slice A0 0 0 := by
      rw [eval_put_other _ _ _ _ (Ne.symm hqp), eval_put_same _ _ _ (by rw [hn]; exact nb.1)]
      exact hav0
    have hp2 : ((a.put (some B.p) (a.eval (.tmp B.a))).put (some B.q) ((a.put (some B.p) (a.eval (.tmp B.a))).eval (.tmp B.l))).eval (.tmp B.q) = .int .i32 (N : Int) := by
      rw [eval_put_same _ _ _ (by rw [put_size, hn]; exact nb.2.1), eval_put_other _ _ _ _ hlp, hlv, hN]
    refine wpT_value rfl (run_append_zeros rfl hp1 hp2 g1 (hT.convs _ _ (look_mem hcv)) g2 g3 hN0 (by omega) (by omega) g7) ?_
    refine wpT_value rfl (run_assign _ _ rfl) (wpT_ops_nil ?_)
    rw [eval_put_same _ _ _ (by simp only [put_size]; rw [hn]; exact nb.2.2.1)]
    refine wpT_region ?_
    refine wpT_value rfl (run_assign _ _ rfl) (wpT_ops_nil ?_)
    rw [eval_const]
    have hcap := grownCap_ge w N 0 e
    rw [g4, zeroCells_zl zs g6, zeroCells_zl zs g6]
    have hcat : ((zl zs N).toArray ++ (zl zs (grownCap w N 0 e - N)).toArray : Array Value) = (zl zs N ++ zl zs (grownCap w N 0 e - N)).toArray := by simp
    rw [hcat]
    generalize hslv : Value.slice (some ⟨w.heap.size, 0, none⟩) N (grownCap w N 0 e) = slv
    generalize hC0 : zl zs (grownCap w N 0 e - N) = C0
    generalize ha5 : Act.put _ (some L.i) (Value.int .i32 0) = a5
    have hsame5 : ∀ q, q ∉ [B.p, B.q, B.r, B.a, L.i] → a5.eval (.tmp q) = a.eval (.tmp q) := by
      intro q hq
      simp only [List.mem_cons, List.not_mem_nil, or_false, not_or] at hq
      rw [← ha5]
      rw [eval_put_other _ _ _ _ hq.2.2.2.2, eval_put_other _ _ _ _ hq.2.2.2.1, eval_put_other _ _ _ _ hq.2.2.1, eval_put_other _ _ _ _ hq.2.1, eval_put_other _ _ _ _ hq.1]
    have hn5 : a5.tmps.size = nT := by rw [← ha5]; simp only [put_size]; exact hn
    have hd5 : a5.defers = a.defers := by rw [← ha5]; simp only [put_defers]
    have hi5 : a5.eval (.tmp L.i) = .int .i32 0 := by rw [← ha5]; exact eval_put_same _ _ _ (by simp only [put_size]; rw [hn]; exact nb.2.2.2.2)
    have hsl5 : a5.eval (.tmp B.a) = slv := by
      rw [← ha5, eval_put_other _ _ _ _ (Ne.symm hia)]
      exact eval_put_same _ _ _ (by simp only [put_size]; rw [hn]; exact nb.2.2.2.1)
    have hl5 : a5.eval (.tmp B.l) = .int .i32 (N : Int) := by rw [hsame5 _ hlo, hlv, hN]
    -- memory behind 'append'
    generalize hw5 : w.drew.alloc (.cells (zl zs N ++ C0).toArray e) = w5
    have hbel : Below w.heap.size w w5 := by
      rw [← hw5]
      refine ⟨rfl, rfl, rfl, by simp, fun k hk => ?_⟩
      exact (Below.heap_alloc w.drew _ k (by simpa using hk)).trans rfl
    have hblk : w5.heap[w.heap.size]? = some (.cells (zl zs N ++ C0).toArray e (0, 0)) := by
      rw [← hw5]
      have := heap_alloc_new w.drew (.cells (zl zs N ++ C0).toArray e)
      simpa using this
    have hS5 := hS.fresh hbel
    have hsz5 : w.heap.size < w5.heap.size := lt_of_some hblk
    have hXn : ¬ X w.heap.size := fun hx => absurd (hS.lt _ hx) (Nat.lt_irrefl _)
    have hgn : g ≠ w.heap.size := fun hx => by have h1 := lt_of_cell hS.err; simp only at h1; omega
    have hrbn : w.heap.size ≠ G.rb := fun hx => by have := hS.lt _ hS.xr; omega
    have hbln : bl ≠ w.heap.size := fun hx => by have := hS.lt _ hS.xb; omega
    -- the loop
    let f : List CV → RS → Option (List CV × RS) := fun e t => runR rB.k e t
    let X' : Nat → Prop := fun b => X b ∨ b = w.heap.size
    have wci : L.c ∈ wrC b := by rw [hwrb]; simp
    have wii : L.i ∈ wrC b := by rw [hwrb]; simp
    refine wp_block (wp_loop
      (fun a1 w1 => ∃ (q : Nat) (es : List CV) (vs : List Value) (sq : RS), q ≤ N ∧ a1.tmps.size = nT ∧ a1.defers = a.defers ∧ a1.eval (.tmp L.i) = .int .i32 q ∧ (∀ z, z ∉ B.p :: B.q :: B.r :: B.a :: L.i :: wrC b → a1.eval (.tmp z) = a.eval (.tmp z)) ∧
        a1.eval (.tmp B.l) = .int .i32 (N : Int) ∧ a1.eval (.tmp B.a) = slv ∧ vs.length = q * zs.length ∧ es.length = q * zs.length ∧ w1.heap[w.heap.size]? = some (.cells (vs ++ (zl zs (N - q) ++ C0)).toArray e (0, 0)) ∧
        (∀ (k : Nat) (v : Value) (c : CV), vs[k]? = some v → es[k]? = some c → Rep w1 X' v c) ∧ RdOK w1 X' tR G.rb sq ∧ Turn w5 w1 G.rb w.heap.size ∧
        loopR f d N s = (match loopR f d (N - q) sq with | none => none | some (es', t) => some (es ++ es', t)))
      (fun a1 _ => N - (intOf (a1.eval (.tmp L.i))).toNat) ?_ ?_)
    · refine ⟨0, [], [], s, Nat.zero_le _, hn5, hd5, hi5, ?_, hl5, hsl5, by simp, by simp, by simpa using hblk, by simp, ?_, Turn.refl _ _ _, ?_⟩
      · intro z hz
        refine hsame5 z ?_
        simp only [List.mem_cons, not_or] at hz
        simp only [List.mem_cons, List.not_mem_nil, or_false, not_or]
        exact ⟨hz.1, hz.2.1, hz.2.2.1, hz.2.2.2.1, hz.2.2.2.2.1⟩
      · obtain ⟨v, v1, v2⟩ := hS.rd
        obtain ⟨v', v3, v4⟩ := hS5.rd
        have : v = v' := by
          have h1 := (hbel.block G.rb (hS.lt _ hS.xr)).trans v1
          rw [v3] at h1
          simpa using h1.symm
        subst this
        refine ⟨v, v3, ?_⟩
        have hk : Keeps X' w w5 := ⟨hbel.size, fun b hb _ => hbel.block b hb⟩
        exact (v2.mono (Y := X') (fun b hb hx => hx.elim (fun h => h) (fun e => by omega))).keep hk
      · rw [Nat.sub_zero]
        cases loopR f d N s with
        | none => rfl
        | some p => rfl
    · rintro a1 w1 ⟨q, es, vs, sq, hq, hn1, hd1, hi1, hs1, hl1, hsl1, hvl, hel, hh1, hrep1, hrd1, ht1, hloop1⟩
      refine wpT_one (wpT_flat b ?_)
      rw [hflat]
      refine wpT_region ?_
      refine wpT_value rfl (run_move _ _ rfl) ?_
      refine wpT_value rfl (run_move _ _ rfl) ?_
      have hp1n : p1 < nT := wsn p1 (by simp)
      have hp2n : p2 < nT := wsn p2 (by simp)
      have hcn : L.c < nT := wsn L.c (by simp)
      rw [hi1]
      have e2 : (a1.put (some p1) (.int .i32 q)).eval (.tmp L.l) = .int .i32 (N : Int) := by
        rw [eval_put_other _ _ _ _ (Ne.symm I.n1l), hl]; exact hl1
      rw [e2]
      have e3 : ((a1.put (some p1) (.int .i32 q)).put (some p2) (.int .i32 (N : Int))).eval (.tmp p1) = .int .i32 q := by
        rw [eval_put_other _ _ _ _ (Ne.symm I.n21), eval_put_same _ _ _ (by rw [hn1]; exact hp1n)]
      have e4 : ((a1.put (some p1) (.int .i32 q)).put (some p2) (.int .i32 (N : Int))).eval (.tmp p2) = .int .i32 (N : Int) := eval_put_same _ _ _ (by rw [put_size, hn1]; exact hp2n)
      refine wpT_value rfl (run_cmp (b := decide ((q : Int) < (N : Int))) rfl e3 e4 rfl) (wpT_ops_nil ?_)
      generalize ha2 : Act.put _ (some L.c) (Value.bool (decide ((q : Int) < (N : Int)))) = a2
      have hc2 : a2.eval (.tmp L.c) = .bool (decide ((q : Int) < (N : Int))) := by rw [← ha2]; exact eval_put_same _ _ _ (by simp only [put_size]; rw [hn1]; exact hcn)
      have hn2 : a2.tmps.size = nT := by rw [← ha2]; simp only [put_size]; exact hn1
      have hd2 : a2.defers = a.defers := by rw [← ha2]; simp only [put_defers]; exact hd1
      have hs2' : ∀ z, z ∉ [p1, p2, L.c] → a2.eval (.tmp z) = a1.eval (.tmp z) := by
        intro z hz
        simp only [List.mem_cons, List.not_mem_nil, or_false, not_or] at hz
        rw [← ha2, eval_put_other _ _ _ _ hz.2.2, eval_put_other _ _ _ _ hz.2.1, eval_put_other _ _ _ _ hz.1]
      have hs2 : ∀ z, z ∉ B.p :: B.q :: B.r :: B.a :: L.i :: wrC b → a2.eval (.tmp z) = a.eval (.tmp z) := by
        intro z hz
        rw [hs2' z ?_, hs1 z hz]
        intro hm
        apply hz
        rw [hwrb]
        simp only [List.mem_cons, List.mem_append]
        simp only [List.mem_cons, List.not_mem_nil, or_false] at hm
        rcases hm with h | h | h <;> simp [h]
      have hi2 : a2.eval (.tmp L.i) = .int .i32 q := (hs2' _ I.i1).trans hi1
      have hl2 : a2.eval (.tmp B.l) = .int .i32 (N : Int) := (hs2' _ (hl ▸ I.l1)).trans hl1
      have hsl2 : a2.eval (.tmp B.a) = slv := (hs2' _ (ha ▸ I.a1)).trans hsl1
      clear ha2 hs2' e2 e3 e4
      refine wpT_cond hc2 ?_
      by_cases hqc : q < N
      · rw [if_pos (by simpa using hqc)]
        have hwbd : ∀ z, z ∈ wrC bd → z ∈ wrC b := by intro z hz; rw [hwrb]; simp [hz]
        refine wpT_skip (loop_eq (wpT_flat bd ?_))
        rw [List.append_nil, ← I.body]
        have hNq : N - q = (N - (q + 1)) + 1 := by omega
        have hrow1 : w1.heap[w.heap.size]? = some (.cells (vs ++ (zs ++ (zl zs (N - (q + 1)) ++ C0))).toArray e (0, 0)) := by
          rw [hh1, hNq]
          simp [zl]
        have hsz1 : w5.heap.size ≤ w1.heap.size := ht1.size
        have hXlt : ∀ b, X b → b < w.heap.size := hS.lt
        have herr : ∀ w' : World, Turn w5 w' G.rb w.heap.size → w'.cell? ⟨g, 0, none⟩ = some E := by
          intro w' h
          rw [← hS5.err]
          exact World.cell?_of_block (h.block g (lt_of_cell hS5.err) (fun e => hS.xg (e ▸ hS.xr)) hgn)
        refine ih false (j + 1) zs 0 _ .none (L.bd.map .code) rB hB _ X' (lvs ++ [(w.heap.size, vs.length)]) w.heap.size vs (zl zs (N - (q + 1)) ++ C0) zs e d sq ⟨G.rb, .slice none 0 0, .slice none 0 0, 0, sq.bad, E, q⟩ [] w1 a2
          (by simp [hlen]) (by rw [List.getElem?_append_right (by omega), hlen, Nat.sub_self]; rfl) ⟨.inr rfl, .inl hS.xr, hrbn, ?_, hrow1, q6.trans q7.1.symm, fun k v c h1 h2 => q8 w1 X' k v c h1 h2, hrd1, ?_, herr w1 ht1⟩ rfl rfl rfl (fun _ _ => rfl) ?_ hn2 (hd2.trans hdf) (.inl rfl) trivial ?_ ?_
        · intro b hb
          have := ht1.size
          rcases hb with hb | hb
          · have := hXlt b hb; omega
          · omega
        · intro hb
          rcases hb with hb | hb
          · exact hS.xg hb
          · exact hgn hb
        · intro z y hy
          simp only [List.mem_cons, Prod.mk.injEq] at hy
          rcases hy with ⟨rfl, rfl⟩ | ⟨rfl, rfl⟩ | hy
          · refine ⟨w.heap.size, 0, N, grownCap w N 0 e, by rw [ha, hsl2, ← hslv], hqc, ?_⟩
            rw [List.getElem?_append_right (by omega), hlen, Nat.sub_self, hvl, Nat.zero_add]
            rfl
          · exact hi2
          · refine (hσ (a1 := a2) (G' := ⟨G.rb, .slice none 0 0, .slice none 0 0, 0, sq.bad, E, q⟩) rfl ?_ z y hy).snoc
            intro z hz
            rw [hs2 z hz]
        · -- a thing is read
          intro a' w' vals' cs' s2 ho hA hS' hvl' _
          show wpT P _ [.code _] a' w'
          have hwb : wrT (L.bd.map .code) = L.bd.flatMap wrC := by
            generalize L.bd = l
            induction l with
            | nil => rfl
            | cons c l ih => simp only [List.map_cons, wrT, List.flatMap_cons, ih]
          have hsm : ∀ z, z ∉ wrC bd → a'.eval (.tmp z) = a2.eval (.tmp z) := by
            intro z hz
            rw [hA.same z ?_]
            rw [hwb, I.body, ← wrC_flat bd]
            exact hz
          have hp3n : p3 < nT := wsn p3 (by simp)
          have hsn : s' < nT := wsn s' (by simp)
          refine wpT_region ?_
          refine wpT_value rfl (run_move _ _ rfl) ?_
          rw [hsm _ I.ib, hi2]
          have e3 : (a'.put (some p3) (.int .i32 q)).eval (.tmp p3) = .int .i32 (q : Int) := eval_put_same _ _ _ (by rw [hA.size]; exact hp3n)
          refine wpT_value rfl (run_add32 rfl rfl e3 (by omega)) ?_
          refine wpT_value rfl (run_assign _ _ rfl) (wpT_ops_nil ?_)
          rw [eval_put_same _ _ _ (by rw [put_size, hA.size]; exact hsn)]
          have hLin : L.i < nT := nb.2.2.2.2
          have ei : (((a'.put (some p3) (.int .i32 q)).put (some s') (.int .i32 ((q + 1 : Nat) : Int))).put (some L.i) (.int .i32 ((q + 1 : Nat) : Int))).eval (.tmp L.i) = .int .i32 ((q + 1 : Nat) : Int) := eval_put_same _ _ _ (by simp only [put_size]; rw [hA.size]; exact hLin)
          have hfar : ∀ z, z ∉ [p3, s', L.i] → (((a'.put (some p3) (.int .i32 q)).put (some s') (.int .i32 ((q + 1 : Nat) : Int))).put (some L.i) (.int .i32 ((q + 1 : Nat) : Int))).eval (.tmp z) = a'.eval (.tmp z) := by
            intro z hz
            simp only [List.mem_cons, List.not_mem_nil, or_false, not_or] at hz
            rw [eval_put_other _ _ _ _ hz.2.2, eval_put_other _ _ _ _ hz.2.1, eval_put_other _ _ _ _ hz.1]
          refine ⟨⟨q + 1, es ++ cs', vs ++ vals', s2, hqc, by simp only [put_size]; exact hA.size, by simp only [put_defers]; rw [hA.defers]; exact hd2, ei, ?_, ?_, ?_, ?_, ?_, ?_, ?_, ?_, ht1.trans hA.turn, ?_⟩, ?_⟩
          · intro z hz
            rw [hfar z ?_, hsm z (fun hm => hz (by simp [hwbd z hm])), hs2 z hz]
            intro hm
            apply hz
            rw [hwrb]
            simp only [List.mem_cons, List.mem_append]
            simp only [List.mem_cons, List.not_mem_nil, or_false] at hm
            rcases hm with h | h | h <;> simp [h]
          · rw [hfar _ (hl ▸ I.l2), hsm _ (hl ▸ I.lb)]; exact hl2
          · rw [hfar _ (ha ▸ I.a2), hsm _ (ha ▸ I.ab)]; exact hsl2
          · rw [List.length_append, hvl', hvl, Nat.add_mul, Nat.one_mul]
          · rw [List.length_append, hel, ← hS'.len, hvl', Nat.add_mul, Nat.one_mul]
          · have := hS'.row
            rw [this]
            simp
          · intro k v c hv hc
            have hvv : vs.length = es.length := by rw [hvl, hel]
            by_cases hk : k < vs.length
            · rw [List.getElem?_append_left hk] at hv
              rw [List.getElem?_append_left (by omega)] at hc
              exact (hrep1 k v c hv hc).keep (hA.turn.keeps (.inl hS.xr) (.inr rfl))
            · rw [List.getElem?_append_right (by omega)] at hv hc
              rw [hvv] at hv
              exact hS'.rep _ v c hv hc
          · exact hS'.rd
          · rw [hloop1, hNq]
            simp only [loopR]
            have ho' : f d sq = some (cs', s2) := ho
            rw [ho']
            simp only
            cases loopR f d (N - (q + 1)) s2 with
            | none => rfl
            | some pp => simp
          · show N - (intOf (Act.eval _ (.tmp L.i))).toNat < N - (intOf (Value.int .i32 (q : Int))).toNat
            rw [ei]
            simp only [intOf]
            omega
        · -- the function is left
          intro a' w' ho hA hE
          show Q .ret a' w'
          refine q2 a' w' ?_ ⟨hA.defers.trans hd2, (Turn.of_below hbel).fresh (ht1.trans hA.turn) (Nat.le_refl _)⟩ hE
          simp only [outc, hsb]
          rw [hNt]
          have ho' : f d sq = none := ho
          have : loopR (fun e t => runR rB.k e t) d N s = none := by
            show loopR f d N s = none
            rw [hloop1, hNq]
            simp only [loopR]
            rw [ho']
          rw [this]
          rfl
      · rw [if_neg (by simpa using hqc)]
        have hqe : q = N := by omega
        subst hqe
        refine wp_exit ?_
        simp only [Exit.then, Exit.inBlock, if_true]
        have htw : Turn w w1 G.rb bl := (Turn.of_below hbel).fresh ht1 (Nat.le_refl _)
        have hblk1 : ∀ k, k < w.heap.size → k ≠ G.rb → w1.heap[k]? = w.heap[k]? := fun k hk h1 => (ht1.block k (Nat.lt_trans hk hsz5) h1 (by omega)).trans (hbel.block k hk)
        have hkX : Keeps X w w1 := ⟨htw.size, fun b hb hX => hblk1 b hb (fun e => hX (e ▸ hS.xr))⟩
        refine rest a2 w1 es sq slv hn2 hd2 hs2 hsl2 htw ?_ ?_ ?_
        · exact ⟨hS.xb, hS.xr, hS.ne, fun b hx => Nat.lt_of_lt_of_le (hS.lt b hx) htw.size, (hblk1 bl (lt_of_some hS.row) hS.ne).trans hS.row, hS.len, fun k v c hv hc => (hS.rep k v c hv hc).keep hkX,
            hrd1.mono (fun b _ hx => .inl hx), hS.xg, (hkX.cell (a := ⟨g, 0, none⟩) hS.xg (lt_of_cell hS.err)).trans hS.err⟩
        · have hnl : isNil nul G.l = false := by
            unfold isNil
            split
            · simp; omega
            · simp; omega
            · rfl
          rw [hnl, hNt, ← hslv]
          refine .arr w.heap.size q (grownCap w q 0 e) e _ es hXn hh1 (by simp; omega) hcap ?_
          intro k v c hv hc
          have hlt : k < vs.length := by have := (List.getElem?_eq_some_iff.1 hc).1; omega
          have hv' : vs[k]? = some v := by
            rw [List.getElem?_toArray, List.getElem?_append_left hlt] at hv
            exact hv
          exact (hrep1 k v c hv' hc).mono (fun b _ hx => .inl hx)
        · rw [hNt]
          show loopR f d q s = _
          rw [hloop1, Nat.sub_self]
          simp [loopR]
  · -- there are none
    rw [if_neg (by simpa using hpos)]
    have hav : a.eval (.tmp B.a) = G.sl := by
      unfold noB at hno
      split at hno
      · rename_i hq
        exact hG _ _ (look_mem hq)
      · rename_i hq
        have h1 : a.eval (.tmp B.a) = .slice none 0 0 := hG _ _ (look_mem hq)
        have h2 : nul = 0 := by simpa [Nat.beq_eq] using hno
        rcases hsl with ⟨h3, _⟩ | ⟨_, _, _, _, _, h4⟩
        · rw [h1, h3]
        · omega
      · cases hno
    refine wpT_skip (wpT_region ?_)
    refine wpT_value rfl (run_assign _ _ rfl) (wpT_ops_nil ?_)
    rw [eval_const]
    have hp1n : p1 < nT := wsn p1 (by simp)
    have hp2n : p2 < nT := wsn p2 (by simp)
    have hcn : L.c < nT := wsn L.c (by simp)
    have hi0 : (a.put (some L.i) (.int .i32 0)).eval (.tmp L.i) = .int .i32 0 := eval_put_same _ _ _ (by rw [hn]; exact nb.2.2.2.2)
    refine wp_block (wp_loop_once (wpT_one (wpT_flat b ?_)))
    rw [hflat]
    refine wpT_region ?_
    refine wpT_value rfl (run_move _ _ rfl) ?_
    refine wpT_value rfl (run_move _ _ rfl) ?_
    have hli : B.l ≠ L.i := by simp only [List.mem_cons, List.not_mem_nil, or_false, not_or] at hlo; exact hlo.2.2.2.2
    have e2 : ((a.put (some L.i) (.int .i32 0)).put (some p1) (.int .i32 0)).eval (.tmp L.l) = .int .i32 G.l := by
      rw [eval_put_other _ _ _ _ (Ne.symm I.n1l), hl, eval_put_other _ _ _ _ hli, hlv]
    rw [hi0, e2]
    have e3 : (((a.put (some L.i) (.int .i32 0)).put (some p1) (.int .i32 0)).put (some p2) (.int .i32 G.l)).eval (.tmp p1) = .int .i32 0 := by
      rw [eval_put_other _ _ _ _ (Ne.symm I.n21), eval_put_same _ _ _ (by rw [put_size, hn]; exact hp1n)]
    have e4 : (((a.put (some L.i) (.int .i32 0)).put (some p1) (.int .i32 0)).put (some p2) (.int .i32 G.l)).eval (.tmp p2) = .int .i32 G.l := eval_put_same _ _ _ (by simp only [put_size]; rw [hn]; exact hp2n)
    refine wpT_value rfl (run_cmp (b := decide ((0 : Int) < G.l)) rfl e3 e4 rfl) (wpT_ops_nil ?_)
    have hdf : decide ((0 : Int) < G.l) = false := by simpa using hpos
    rw [hdf]
    refine wpT_cond (b := false) (eval_put_same _ _ _ (by simp only [put_size]; rw [hn]; exact hcn)) ?_
    refine wp_exit ?_
    simp only [Exit.then, Exit.inBlock, if_true]
    have hl0 : G.l.toNat = 0 := by omega
    refine rest _ w [] s G.sl (by simp only [put_size]; exact hn) (by simp only [put_defers]) ?_ ?_ (Turn.refl _ _ _) hS (by rw [hl0]; exact hsl.rep (by omega)) (by rw [hl0]; rfl)
    · intro z hz
      have hz' := hz
      rw [hwrb] at hz'
      simp only [List.mem_cons, List.mem_append, not_or] at hz'
      rw [eval_put_other _ _ _ _ hz'.2.2.2.2.2.1.2.2.1, eval_put_other _ _ _ _ hz'.2.2.2.2.2.1.2.1, eval_put_other _ _ _ _ hz'.2.2.2.2.2.1.1, eval_put_other _ _ _ _ hz'.2.2.2.2.1]
    · have h1 := I.a1
      rw [ha] at h1
      simp only [List.mem_cons, List.not_mem_nil, or_false, not_or] at h1
      rw [eval_put_other _ _ _ _ h1.2.2, eval_put_other _ _ _ _ h1.2.1, eval_put_other _ _ _ _ h1.1, eval_put_other _ _ _ _ (Ne.symm hia), hav]
end Go.Proofs.Eng
/-! The executor of reading tells the truth. -/
namespace Go.Proofs.Eng
open Go Go.RowKit

theorem callR_inv {R : TabR} {j : Nat} {σ : SR} {f : Nat} {args : List Operand} {cr : CR} (h : callR R j σ f args = some cr) :
    ∃ x, args = [x] ∧ ((avR σ x = some .rdr ∧ ((cr = .ok ∧ f = R.fOk) ∨ (cr = .cpl ∧ f = R.fCpl) ∨ (cr = .tags ∧ f = R.fTags) ∨ (∃ p, cr = .prim p ∧ look R.rf f = some p) ∨ (∃ c, cr = .len c ∧ look R.rl f = some c))) ∨
      (∃ off n ss, cr = .dfl off n ss ∧ avR σ x = some (.ptr j off) ∧ look R.dt f = some (n, ss))) := by
  unfold callR at h
  split at h
  · rename_i x
    refine ⟨x, rfl, ?_⟩
    split at h
    · rename_i hx
      refine .inl ⟨hx, ?_⟩
      split at h
      · rename_i hf; cases h; exact .inl ⟨rfl, Nat.eq_of_beq_eq_true hf⟩
      · split at h
        · rename_i hf; cases h; exact .inr (.inl ⟨rfl, Nat.eq_of_beq_eq_true hf⟩)
        · split at h
          · rename_i hf; cases h; exact .inr (.inr (.inl ⟨rfl, Nat.eq_of_beq_eq_true hf⟩))
          · split at h
            · rename_i p hp; cases h; exact .inr (.inr (.inr (.inl ⟨p, rfl, hp⟩)))
            · split at h
              · rename_i c hc; cases h; exact .inr (.inr (.inr (.inr ⟨c, rfl, hc⟩)))
              · cases h
    · rename_i j' off hx
      split at h
      · rename_i hj
        obtain rfl := Nat.eq_of_beq_eq_true hj
        split at h
        · rename_i n ss hd
          cases h
          exact .inr ⟨off, n, ss, rfl, hx, hd⟩
        · cases h
      · cases h
    · cases h
  · cases h
theorem run_bs0g {P : Program} {ρ : Operand → Value} {w : World} {o : Oper} {t e : TypeId} {i : TypeInfo} {z : Value} (hu : P.underlying t = some (.slice e)) (hi : P.info? e = some i) (hz : i.zero = some z) (ho : o.op = .buildSlice t 0 #[]) :
    (execOp ρ o).run P w = .ok (.value (.slice (some ⟨w.heap.size, 0, none⟩) 0 0)) (w.alloc (.cells #[] e)) := by
  simp [execOp, ho, Instr.buildSlice, run_underlying hu, sizeOf, typeInfo, hi, hz, zeroValue, Instr.fill, newRow]
  kernel_rfl
theorem setL_noop : ∀ (ss : Sets) (A C vals dv : List Value) (off lo : Nat), noop dv off ss = true → lo ≤ off → (∀ k, lo ≤ k → vals[k]? = dv[k]?) → setS (A ++ (vals ++ C)).toArray (A.length + off) ss = (A ++ (vals ++ C)).toArray := by
  intro ss
  induction ss with
  | nil => intro A C vals dv off lo _ _ _; rfl
  | cons p r ih =>
    intro A C vals dv off lo h hlo hdv
    simp only [noop, allB, Bool.and_eq_true] at h
    obtain ⟨h1, h2⟩ := h
    have e : (A ++ (vals ++ C)).toArray.setIfInBounds (A.length + off + p.1) p.2 = (A ++ (vals ++ C)).toArray := by
      split at h1
      · rename_i v hv
        have := veq_ok h1
        subst this
        rw [← hdv _ (by omega)] at hv
        have hlt := (List.getElem?_eq_some_iff.1 hv).1
        apply Array.toList_inj.1
        rw [Array.toList_setIfInBounds]
        apply List.ext_getElem?
        intro i
        rw [List.getElem?_set]
        split
        · rename_i hi
          subst hi
          rw [if_pos (by simp; omega)]
          rw [Nat.add_assoc, List.getElem?_append_right (by omega), Nat.add_sub_cancel_left, List.getElem?_append_left hlt]
          exact hv.symm
        · rfl
      · cases h1
    simp only [setS]
    rw [e]
    exact ih A C vals dv off lo h2 hlo hdv
theorem isOut_inv {R : TabR} {nT rr : Nat} {σ : SR} {c : Code} (h : isOut R nT rr σ c = true) : ∃ id d x ts y1 y2 s1 s2 e1 e2, flatC c = [.region id #[⟨some d, .call ⟨.value (.func R.fCpl), #[.tmp x], ts⟩, y1, s1, e1, none⟩, ⟨some rr, .assign (.tmp d), y2, s2, e2, none⟩] false, .ret] ∧ look σ x = some .rdr ∧ d < nT ∧ rr < nT := by
  unfold isOut at h
  split at h
  · rename_i id ops hf
    split at h
    · rename_i d f args ts y1 s1 e1 r d' y2 s2 e2 hops
      split at h
      · rename_i x hargs
        simp only [Bool.and_eq_true, Nat.beq_eq, Nat.blt_eq] at h
        obtain ⟨⟨⟨⟨⟨rfl, rfl⟩, rfl⟩, hd⟩, hr⟩, hx⟩ := h
        obtain rfl : ops = #[_, _] := Array.toList_inj.1 hops
        obtain rfl : args = #[_] := Array.toList_inj.1 hargs
        split at hx
        · rename_i hl; exact ⟨_, _, _, _, _, _, _, _, _, _, hf, hl, hd, hr⟩
        · cases hx
      · cases h
    · cases h
  · cases h
theorem asEmpty_inv {R : TabR} {c : Code} {d a : Nat} (h : asEmpty R c = some (d, a)) : ∃ id t y1 y2 s1 s2 e1 e2 ks zs, c = .region id #[⟨some d, .buildSlice t 0 #[], y1, s1, e1, none⟩, ⟨some a, .assign (.tmp d), y2, s2, e2, none⟩] false ∧ look R.els t = some (ks, zs) := by
  unfold asEmpty at h
  split at h
  · rename_i id ops
    split at h
    · rename_i d1 t ps y1 s1 e1 a1 d' y2 s2 e2 hops
      split at h
      · rename_i hc
        simp only [Bool.and_eq_true, Nat.beq_eq, Array.isEmpty_iff] at hc
        obtain ⟨⟨rfl, rfl⟩, hl⟩ := hc
        cases h
        obtain rfl : ops = #[_, _] := Array.toList_inj.1 hops
        obtain ⟨⟨ks, zs⟩, hl⟩ := Option.isSome_iff_exists.1 hl
        exact ⟨_, _, _, _, _, _, _, _, ks, zs, rfl, hl⟩
      · cases h
    · cases h
  · cases h
theorem DenR.sl {lvs : List (Nat × Nat)} {G : RE} {x : AR} {v sl' : Value} (h : DenR lvs G x v) (hx : notSl x = true) : DenR lvs ⟨G.rb, G.pv, sl', G.l, G.bad, G.E, G.ix⟩ x v := by
  cases x <;> first | exact h | (simp [notSl] at hx)
theorem below_newblk (w : World) (o : Obj) : Below w.heap.size w (w.alloc o) := ⟨rfl, rfl, rfl, by simp, fun k hk => Below.heap_alloc w o k hk⟩
end Go.Proofs.Eng
/-! The executor of reading tells the truth: the theorem. -/
namespace Go.Proofs.Eng
open Go Go.RowKit

def runSt (T : Tab) (R : TabR) (nT rr n : Nat) (top : Bool) (j : Nat) (dv : List Value) : St → Option Res
  | .fail => none
  | .done => some (.just .nil)
  | .go lo' σ' md' todo' wr => match execR T R nT rr n top j dv lo' σ' md' todo' with
    | some r => some (wrapR wr r)
    | none => none
  | .loop dB σB tB nul d σ' k' => match execR T R nT rr n false (j + 1) dB 0 σB .none tB with
    | some rb => match execR T R nT rr n top j dv 0 σ' (.inp false 1) k' with
      | some r => some ⟨r.off, nul, d, rb.k, r.k⟩
      | none => none
    | none => none
theorem go_inv {T : Tab} {R : TabR} {nT rr n : Nat} {top : Bool} {j : Nat} {dv : List Value} {lo lo' : Nat} {σ σ' : SR} {md md' : Md} {todo todo' : List TD} {wr : Wrap} {r : Res} (h : execR T R nT rr (n + 1) top j dv lo σ md todo = some r) (hs : stepR T R nT rr top j dv lo σ md todo = .go lo' σ' md' todo' wr) :
    ∃ r0, execR T R nT rr n top j dv lo' σ' md' todo' = some r0 ∧ r = wrapR wr r0 := by
  rw [execR, hs] at h
  simp only at h
  split at h
  · rename_i r0 hr
    cases h
    exact ⟨r0, hr, rfl⟩
  · cases h
theorem loop_inv {T : Tab} {R : TabR} {nT rr n : Nat} {top : Bool} {j nul : Nat} {dv dB : List Value} {lo : Nat} {σ σ' σB : SR} {md : Md} {todo tB k' : List TD} {d : List CV} {r : Res} (h : execR T R nT rr (n + 1) top j dv lo σ md todo = some r) (hs : stepR T R nT rr top j dv lo σ md todo = .loop dB σB tB nul d σ' k') :
    ∃ rb r0, execR T R nT rr n false (j + 1) dB 0 σB .none tB = some rb ∧ execR T R nT rr n top j dv lo σ' (.inp false 1) k' = some r0 ∧ r = ⟨r0.off, nul, d, rb.k, r0.k⟩ := by
  rw [execR, hs] at h
  simp only at h
  split at h
  · rename_i rb hb
    split at h
    · rename_i r0 hr
      cases h
      exact ⟨rb, r0, hb, hr, rfl⟩
    · cases h
  · cases h
theorem fail_inv {T : Tab} {R : TabR} {nT rr n : Nat} {top : Bool} {j : Nat} {dv : List Value} {lo : Nat} {σ : SR} {md : Md} {todo : List TD} {r : Res} (h : execR T R nT rr (n + 1) top j dv lo σ md todo = some r) : stepR T R nT rr top j dv lo σ md todo ≠ .fail := by
  intro hs
  rw [execR, hs] at h
  cases h
theorem done_inv {T : Tab} {R : TabR} {nT rr n : Nat} {top : Bool} {j : Nat} {dv : List Value} {lo : Nat} {σ : SR} {md : Md} {todo : List TD} {r : Res} (h : execR T R nT rr (n + 1) top j dv lo σ md todo = some r) (hs : stepR T R nT rr top j dv lo σ md todo = .done) : r = .just .nil := by
  rw [execR, hs] at h
  cases h
  rfl
theorem not_eq_false' {b : Bool} (h : (!b) = true) : b = false := by cases b <;> simp_all
theorem isNone_eq {md : Md} (h : isNone md = true) : md = .none := by cases md <;> simp_all [isNone]
theorem isSkip_eq {c : Code} (h : isSkip c = true) : c = .skip := by cases c <;> simp_all [isSkip]
theorem isLen_eq {o : Option AR} (h : isLen o = true) : o = some .len := by
  unfold isLen at h
  split at h
  · rfl
  · cases h
theorem isCpl_eq {o : Option AR} (h : isCpl o = true) : o = some .cpl := by
  unfold isCpl at h
  split at h
  · rfl
  · cases h
theorem isK32_eq {o : Option IntKind} (h : isK32 o = true) : o = some .i32 := by
  unfold isK32 at h
  split at h
  · rfl
  · cases h

section
variable {P : Program} {T : Tab} {R : TabR} {nT rr tR g : Nat} {E : Value}
/-- The operations that turn memory, or call. -/
theorem hard_case (hT : TabOK P T) (hR : TabROK P R tR g E) {n : Nat} (ih : Truth P T R nT rr tR g E n) {top : Bool} {j : Nat} {dv : List Value} {lo : Nat} {σ : SR} {md : Md} {all : Array Oper} {o : Oper} {l : List Oper} {k : List TD} {r : Res} (hd : dlt o.dst nT = true)
    {lo' : Nat} {σ' : SR} {md' : Md} {todo' : List TD} {wr : Wrap} {r0 : Res} (hst : stepHard T R nT j lo dv σ md all o l k = .go lo' σ' md' todo' wr) (hx : execR T R nT rr n top j dv lo' σ' md' todo' = some r0) (hr : r = wrapR wr r0)
    (Q : Exit → Act → World → Prop) (X : Nat → Prop) (lvs : List (Nat × Nat)) (bl : Nat) (A C vals : List Value) (bt : TypeId) (cs : List CV) (s : RS) (G : RE) (pc : List CV) (w : World) (a : Act) (hg : Region.wanted o (yielded all a.tmps) = true)
    (hlen : lvs.length = j + 1) (hj : lvs[j]? = some (bl, A.length)) (hS : StR w X tR g E G.rb bl A C vals bt cs s) (hbad : G.bad = s.bad) (hGE : G.E = E) (hdl : dv.length = vals.length) (hdv : ∀ k, lo ≤ k → vals[k]? = dv[k]?)
    (hG : GamR lvs G σ a) (hn : a.tmps.size = nT) (hdf : a.defers = []) (hsl : SlF G.sl) (hM : MdOK w X G pc s md)
    (q1 : ∀ a' w' vals' cs' s', outc md r cs s pc G.l = some (cs', s') → AfterR a a' w w' G.rb bl nT (wrT (.ops all (o :: l) :: k)) → StR w' X tR g E G.rb bl A C vals' bt cs' s' → vals'.length = vals.length → (top = true → a'.eval (.tmp rr) = errV E s'.bad) → Q (if top then .ret else .normal) a' w')
    (q2 : ∀ a' w', outc md r cs s pc G.l = none → AfterN a a' w w' G.rb bl → a'.eval (.tmp rr) = E → Q .ret a' w') : wpT P Q (.ops all (o :: l) :: k) a w := by
  have hwr : ∀ t, t ∉ wrT (.ops all (o :: l) :: k) → t ∉ wrT (.ops all l :: k) ∧ some t ≠ o.dst := by
    intro t ht
    simp only [wrT, List.mem_append, not_or] at ht ⊢
    obtain ⟨h1, h2⟩ := wrO_cons ht.1
    exact ⟨⟨h2, ht.2⟩, h1⟩
  have next : ∀ (v : Value) (w1 : World) (lo' : Nat) (σ' : SR) (md' : Md) (r' : Res) (vals' : List Value) (cs' : List CV) (s' : RS) (G' : RE) (pc' : List CV), execR T R nT rr n top j dv lo' σ' md' (.ops all l :: k) = some r' → Turn w w1 G.rb bl → G'.rb = G.rb →
      StR w1 X tR g E G.rb bl A C vals' bt cs' s' → vals'.length = vals.length → G'.bad = s'.bad → G'.E = E → (∀ k, lo' ≤ k → vals'[k]? = dv[k]?) → GamR lvs G' σ' (a.put o.dst v) → SlF G'.sl → MdOK w1 X G' pc' s' md' →
      (outc md r cs s pc G.l = outc md' r' cs' s' pc' G'.l) → wpT P Q (.ops all l :: k) (a.put o.dst v) w1 := by
    intro v w1 lo' σ' md' r' vals' cs' s' G' pc' hx ht hrb hS' hvl hb' hE' hdv' hG' hsl' hM' ho
    refine ih top j dv lo' σ' md' _ r' hx Q X lvs bl A C vals' bt cs' s' G' pc' w1 _ hlen hj (hrb ▸ hS') hb' hE' (hdl.trans hvl.symm) hdv' hG' (by rw [put_size]; exact hn) (by rw [put_defers]; exact hdf) hsl' hM' ?_ ?_
    · intro a' w' vals'' cs'' s'' hoo hA hS'' hv'' htop
      rw [hrb] at hA hS''
      exact q1 a' w' vals'' cs'' s'' (ho.trans hoo) (hA.step hwr ht) hS'' (hv''.trans hvl) htop
    · intro a' w' hoo hA hE2
      rw [hrb] at hA
      exact q2 a' w' (ho.trans hoo) (hA.step ht) hE2
  unfold stepHard at hst
  split at hst
  · -- a call
    rename_i f args ts hop
    split at hst
    · rename_i cr d hcr hdst
      obtain ⟨x, hargs, hinv⟩ := callR_inv hcr
      obtain rfl : args = #[x] := Array.toList_inj.1 hargs
      have hdn : d < nT := dlt_lt hd hdst
      have enter : ∀ {p : Value}, Callable P f → a.eval x = p → (Calls P f #[p] w fun e w' => ∃ v, e = .returned v ∧ wpT P Q (.ops all l :: k) (a.put o.dst v) w') → wpT P Q (.ops all (o :: l) :: k) a w := by
        intro p hcall hp hc
        refine wpT_enter hg (run_callf hcall a.eval rfl o _ _ hop w) ?_
        simpa only [List.map_toArray, List.map_cons, List.map_nil, hp] using hc
      have hdd : dlt (some d) nT = true := by rw [← hdst]; exact hd
      unfold stepCall at hst
      split at hst
      · -- Ok
        cases hst
        rcases hinv with ⟨hx1, h | h | h | h | h⟩ | ⟨_, _, _, h, _⟩
        · obtain ⟨_, rfl⟩ := h
          refine enter hR.ok.2 (avR_ok hG hx1) ((hR.ok.1 w X G.rb s hS.rd).mono ?_)
          rintro e w' ⟨rfl, rfl⟩
          refine ⟨_, rfl, next _ _ lo _ _ r0 vals cs s G pc hx (Turn.refl _ _ _) rfl hS rfl hbad hGE hdv ?_ hsl hM (by rw [hr]; rfl)⟩
          rw [hdst]
          exact hG.put hn hdd (by simp [DenR, hbad])
        · obtain ⟨h, _⟩ := h; cases h
        · obtain ⟨h, _⟩ := h; cases h
        · obtain ⟨_, h, _⟩ := h; cases h
        · obtain ⟨_, h, _⟩ := h; cases h
        · cases h
      · -- Complete
        cases hst
        rcases hinv with ⟨hx1, h | h | h | h | h⟩ | ⟨_, _, _, h, _⟩
        · obtain ⟨h, _⟩ := h; cases h
        · obtain ⟨_, rfl⟩ := h
          refine enter hR.cpl.2 (avR_ok hG hx1) ((hR.cpl.1 w X G.rb s hS.rd hS.err).mono ?_)
          rintro e w' ⟨rfl, rfl⟩
          refine ⟨_, rfl, next _ _ lo _ _ r0 vals cs s G pc hx (Turn.refl _ _ _) rfl hS rfl hbad hGE hdv ?_ hsl trivial (by rw [hr]; rfl)⟩
          rw [hdst]
          exact (hG.stay (G' := G) rfl rfl).put hn hdd (by simp [DenR, hbad, hGE])
        · obtain ⟨h, _⟩ := h; cases h
        · obtain ⟨_, h, _⟩ := h; cases h
        · obtain ⟨_, h, _⟩ := h; cases h
        · cases h
      · -- tags
        cases hst
        rcases hinv with ⟨hx1, h | h | h | h | h⟩ | ⟨_, _, _, h, _⟩
        · obtain ⟨h, _⟩ := h; cases h
        · obtain ⟨h, _⟩ := h; cases h
        · obtain ⟨_, rfl⟩ := h
          refine enter hR.tags.2 (avR_ok hG hx1) ((hR.tags.1 w X G.rb s hS.rd hS.xr hS.lt).mono ?_)
          rintro e w' ⟨v, rfl, hrep, hrd, hgr⟩
          refine ⟨_, rfl, next _ _ lo _ _ r0 vals cs (rTags s).2 ⟨G.rb, .agg #[v], G.sl, G.l, (rTags s).2.bad, E, G.ix⟩ [.tags (rTags s).1] hx (Turn.of_grown hgr) rfl (hS.byRd hgr hrd) rfl rfl rfl hdv ?_ hsl ⟨⟨[v], rfl, rfl, ?_⟩, rfl⟩ (by rw [hr]; rfl)⟩
          · rw [hdst]
            exact (hG.stay (G' := ⟨G.rb, .agg #[v], G.sl, G.l, (rTags s).2.bad, E, G.ix⟩) rfl rfl).put hn hdd rfl
          · intro i u c hu hc
            cases i with
            | zero => cases hu; cases hc; exact hrep
            | succ i => simp at hu
        · obtain ⟨_, h, _⟩ := h; cases h
        · obtain ⟨_, h, _⟩ := h; cases h
        · cases h
      · -- a value
        rename_i p
        cases hst
        rcases hinv with ⟨hx1, h | h | h | h | h⟩ | ⟨_, _, _, h, _⟩
        · obtain ⟨h, _⟩ := h; cases h
        · obtain ⟨h, _⟩ := h; cases h
        · obtain ⟨h, _⟩ := h; cases h
        · obtain ⟨p', hp', hrf⟩ := h
          cases hp'
          obtain ⟨hcon, hcall⟩ := hR.rf f p (look_mem hrf)
          refine enter hcall (avR_ok hG hx1) ((hcon w X G.rb s hS.rd hS.xr hS.lt).mono ?_)
          rintro e w' ⟨v, rfl, hrep, hrd, hgr⟩
          refine ⟨_, rfl, next _ _ lo _ _ r0 vals cs (rprim p s).2 ⟨G.rb, v, G.sl, G.l, (rprim p s).2.bad, E, G.ix⟩ (rprim p s).1 hx (Turn.of_grown hgr) rfl (hS.byRd hgr hrd) rfl rfl rfl hdv ?_ hsl ⟨hrep, rprim_len p s⟩ (by rw [hr]; rfl)⟩
          rw [hdst]
          exact (hG.stay (G' := ⟨G.rb, v, G.sl, G.l, (rprim p s).2.bad, E, G.ix⟩) rfl rfl).put hn hdd rfl
        · obtain ⟨_, h, _⟩ := h; cases h
        · cases h
      · -- a list's length
        rename_i c
        cases hst
        rcases hinv with ⟨hx1, h | h | h | h | h⟩ | ⟨_, _, _, h, _⟩
        · obtain ⟨h, _⟩ := h; cases h
        · obtain ⟨h, _⟩ := h; cases h
        · obtain ⟨h, _⟩ := h; cases h
        · obtain ⟨_, h, _⟩ := h; cases h
        · obtain ⟨c', hc', hrl⟩ := h
          cases hc'
          obtain ⟨hcon, hcall⟩ := hR.rl f c (look_mem hrl)
          refine enter hcall (avR_ok hG hx1) ((hcon w X G.rb s hS.rd hS.xr hS.lt).mono ?_)
          rintro e w' ⟨rfl, hrd, hgr⟩
          refine ⟨_, rfl, next _ _ lo _ _ r0 vals cs (rlen c s).2 ⟨G.rb, G.pv, .slice none 0 0, (rlen c s).1, (rlen c s).2.bad, E, G.ix⟩ [] hx (Turn.of_grown hgr) rfl (hS.byRd hgr hrd) rfl rfl rfl hdv ?_ (.inl rfl)
            ⟨(rlen_range c s).1, (rlen_range c s).2, (by intro h; cases h), .inl ⟨rfl, .inl rfl⟩⟩ (by rw [hr]; rfl)⟩
          rw [hdst]
          exact (hG.stay (G' := ⟨G.rb, G.pv, .slice none 0 0, (rlen c s).1, (rlen c s).2.bad, E, G.ix⟩) rfl rfl).put hn hdd rfl
        · cases h
      · -- defaults
        rename_i off m ss
        split at hst
        · rename_i hc
          cases hst
          simp only [Bool.and_eq_true] at hc
          obtain ⟨⟨hlo, hle⟩, hno⟩ := hc
          have hlo := Nat.le_of_ble_eq_true hlo
          have hle := Nat.le_of_ble_eq_true hle
          rcases hinv with ⟨hx1, h | h | h | h | h⟩ | ⟨off', m', ss', h, hx1, hdt⟩
          · obtain ⟨h, _⟩ := h; cases h
          · obtain ⟨h, _⟩ := h; cases h
          · obtain ⟨h, _⟩ := h; cases h
          · obtain ⟨_, h, _⟩ := h; cases h
          · obtain ⟨_, h, _⟩ := h; cases h
          · cases h
            obtain ⟨hcon, hcall⟩ := hR.dt f m ss (look_mem hdt)
            obtain ⟨L, hL, hp⟩ := avR_ok hG hx1
            rw [hj] at hL
            cases hL
            refine enter hcall hp ((hcon w bl (A.length + off) _ bt hS.row (by simp; omega)).mono ?_)
            rintro e w' ⟨rfl, hb', hgr⟩
            rw [setL_noop ss A C vals dv off lo hno hlo hdv] at hb'
            have hk : ∀ b, b < w.heap.size → w'.heap[b]? = w.heap[b]? := by
              intro b hb
              by_cases e : b = bl
              · subst e; rw [hb', hS.row]
              · exact hgr.block b hb (fun e' => e (Option.some.inj e'))
            have hbel : Below w.heap.size w w' := ⟨hgr.os, hgr.tape, hgr.output, hgr.size, fun b hb => hk b hb⟩
            refine ⟨_, rfl, next _ _ lo _ _ r0 vals cs s G pc hx (Turn.of_below hbel) rfl (hS.fresh hbel) rfl hbad hGE hdv ?_ hsl trivial (by rw [hr]; rfl)⟩
            rw [hdst]
            exact hG.put hn hdd rfl
        · cases hst
      · cases hst
    · cases hst
  · -- a store
    rename_i t x y hop
    unfold stepStore at hst
    split at hst
    · rename_i ag m hdst
      split at hst
      · rename_i j' off m' ag' hx1 hy1 hsz
        split at hst
        · rename_i hc
          cases hst
          simp only [Bool.and_eq_true, Nat.beq_eq, beq_iff_eq] at hc
          obtain ⟨⟨⟨⟨rfl, rfl⟩, rfl⟩, hlo⟩, hle⟩ := hc
          have hlo := Nat.le_of_ble_eq_true hlo
          have hle := Nat.le_of_ble_eq_true hle
          obtain ⟨hrep, hpl⟩ := hM
          obtain ⟨vs, v1, v2, v3, v4⟩ := hrep.cellsOf
          obtain ⟨L, hL, hp⟩ := avR_ok hG hx1
          rw [hj] at hL
          cases hL
          obtain ⟨dd, i, h1, h2, h3, h4, h5⟩ := hT.sizes t _ _ (look_mem hsz)
          have hvsl : vs.length = m' := v2.trans hpl
          have hfit : off + vs.length ≤ vals.length := by omega
          have hcfit : off + pc.length ≤ cs.length := by rw [← hS.len, ← v2]; exact hfit
          have hsp : vals = vals.take off ++ ((vals.drop off).take vs.length ++ vals.drop (off + vs.length)) := by
            rw [← List.drop_drop, List.take_append_drop, List.take_append_drop]
          have hrow : w.heap[bl]? = some (.cells ((A ++ vals.take off) ++ ((vals.drop off).take vs.length ++ (vals.drop (off + vs.length) ++ C))).toArray bt (0, 0)) := by
            rw [hS.row]
            congr 3
            rw [List.append_assoc]
            congr 1
            conv => lhs; rw [hsp]
            simp only [List.append_assoc]
          have hlA : (A ++ vals.take off).length = A.length + off := by simp; omega
          have hrun := run_storeMid (P := P) (ρ := a.eval) (w := w) (o := o) (vs := vs) (A := A ++ vals.take off) (old := (vals.drop off).take vs.length) (C := vals.drop (off + vs.length) ++ C) hop (by rw [hlA]; exact hp) (avR_ok hG hy1) v1 hrow (by simp; omega) h2 (by rw [h3, hvsl]) v4
          have hcat : (A ++ vals.take off) ++ (vs ++ (vals.drop (off + vs.length) ++ C)) = A ++ (spl vals off vs ++ C) := by simp [spl]
          rw [hcat] at hrun
          have hS' : StR (w.setRow bl (A ++ (spl vals off vs ++ C)).toArray) X tR g E G.rb bl A C (spl vals off vs) bt (setAt cs off pc) s := by
            refine hS.put ?_ ?_
            · rw [spl_length hfit, setAt_length hcfit, hS.len]
            · intro k v c hv hc
              rw [spl_get hfit] at hv
              rw [setAt_get hcfit] at hc
              by_cases k1 : k < off
              · rw [if_pos k1] at hv hc
                exact hS.rep k v c hv hc
              · rw [if_neg k1] at hv hc
                by_cases k2 : k < off + vs.length
                · rw [if_pos k2] at hv
                  rw [if_pos (by rw [← v2]; exact k2)] at hc
                  exact v3 _ v c hv hc
                · rw [if_neg k2] at hv
                  rw [if_neg (by rw [← v2]; exact k2)] at hc
                  exact hS.rep k v c hv hc
          have hgo := next undef _ (off + m') _ .none r0 (spl vals off vs) (setAt cs off pc) s G pc hx (Turn.setRow w G.rb bl _) rfl hS' (spl_length hfit) hbad hGE ?_ ?_ hsl trivial (by rw [hr]; rfl)
          · rw [hdst] at hgo
            refine wpT_unit hg hrun ?_
            rw [hdst]
            exact hgo
          · intro k hk
            rw [spl_get hfit, if_neg (by omega), if_neg (by omega)]
            exact hdv k (by omega)
          · rw [hdst]
            exact hG.stay (G' := G) rfl rfl
        · cases hst
      · cases hst
    · cases hst
  · -- an empty list
    rename_i t ps hop
    unfold stepEmpty at hst
    split at hst
    · rename_i d hdst
      split at hst
      · rename_i hc
        cases hst
        simp only [Bool.and_eq_true, Array.isEmpty_iff] at hc
        obtain ⟨rfl, hl⟩ := hc
        obtain ⟨⟨ks, zs⟩, hl⟩ := Option.isSome_iff_exists.1 hl
        obtain ⟨e, i, z, g1, g2, g3, _⟩ := hR.els t ks zs (look_mem hl)
        obtain ⟨m1, m2, m3, m4⟩ := hM
        have hbel := below_newblk w (.cells #[] e)
        refine wpT_value hg (run_bs0g g1 g2 g3 hop) ?_
        refine next _ _ lo _ _ r0 vals cs s ⟨G.rb, G.pv, .slice (some ⟨w.heap.size, 0, none⟩) 0 0, G.l, G.bad, G.E, G.ix⟩ pc hx (Turn.of_below hbel) rfl (hS.fresh hbel) rfl hbad hGE hdv ?_ (.inr ⟨_, rfl⟩)
          ⟨m1, m2, m3, .inr ⟨_, e, rfl, fun hx => absurd (hS.lt _ hx) (Nat.lt_irrefl _), heap_alloc_new w _, .inl rfl⟩⟩ (by rw [hr]; rfl)
        rw [hdst]
        refine GamR.put (nT := nT) ?_ hn (by rw [← hdst]; exact hd) rfl
        intro t y hy
        simp only [noSl, List.mem_filter] at hy
        exact (hG t y hy.1).sl hy.2
      · cases hst
    · cases hst
  · -- a variable of several cells
    rename_i t hop
    unfold stepAlloc at hst
    split at hst
    · rename_i m x t1 x1 y ty1 ps1 af1 id2 ops2 k' hdst
      split at hst
      · rename_i p z ty2 ps2 af2 q t2 x2 ty3 ps3 af3 rest hops2
        split at hst
        · rename_i hcond
          simp only [Bool.and_eq_true, Nat.beq_eq, Bool.not_eq_true', Nat.blt_eq] at hcond
          obtain ⟨⟨⟨⟨⟨⟨⟨rfl, rfl⟩, rfl⟩, rfl⟩, hpx⟩, hbox⟩, hp⟩, hq⟩ := hcond
          have hpx : p ≠ x2 := by intro e; subst e; simp at hpx
          split at hst
          · rename_i az m' agz hy hz hsz'
            split at hst
            · rename_i hnm
              have hnm := Nat.eq_of_beq_eq_true hnm
              subst hnm
              cases hst
              obtain rfl : ops2 = ((⟨some p, .move z, ty2, ps2, af2, none⟩ :: ⟨some q, .load t2 (.tmp x2), ty3, ps3, af3, none⟩ :: rest : List Oper)).toArray := Array.toList_inj.1 (by simpa using hops2)
              have hv1 := avR_ok (a := a.put (some x2) (.pointer (some ⟨w.heap.size, 0, none⟩))) (hG.del (o := some x2)) hy
              simp only [DenR] at hv1
              obtain ⟨hrep, hpl⟩ := hM
              obtain ⟨vs, hpv, v2, v3⟩ := hrep
              have hone : ∀ v ∈ vs, v.oneCell' = true := by
                intro v hv
                obtain ⟨i, hi⟩ := List.mem_iff_getElem?.1 hv
                have hlt : i < pc.length := by rw [← v2]; exact (List.getElem?_eq_some_iff.1 hi).1
                exact (v3 i v _ hi (List.getElem?_eq_getElem hlt)).oneCell
              obtain ⟨dd, ii, zz, b1, b2, b3, b4, b5⟩ := hT.boxes t2 (has_iff.1 hbox)
              obtain ⟨_, ii', _, b3', b6, _, _⟩ := hT.sizes t2 m' agz (look_mem hsz')
              rw [b3] at b3'; cases b3'
              obtain ⟨w1, w2, r1, r2, r3, hbel, hblk⟩ := box_ok (P := P) b1 b2 b3 b4 b5 vs (by rw [v2, hpl, b6]) hone w
              have hx2 : x2 < nT := dlt_lt hd hdst
              have hev := eval_put_same a x2 (.pointer (some ⟨w.heap.size, 0, none⟩)) (by rw [hn]; exact hx2)
              refine wpT_value hg (v := .pointer (some ⟨w.heap.size, 0, none⟩)) (w' := w1) ?_ ?_
              · simp [execOp, hop, r1]
              rw [hdst]
              refine wpT_unit (w' := w2) rfl ?_ ?_
              · simp [execOp, Instr.storeAt, hev, hv1, hpv, Instr.sureAddr, r2]
              refine wpT_ops_nil (wpT_region ?_)
              have hden := avR_ok (a := a.put (some x2) (.pointer (some ⟨w.heap.size, 0, none⟩))) (hG.del (o := some x2)) hz
              refine wpT_value rfl (run_move _ _ rfl) ?_
              have hev2 : ((a.put (some x2) (.pointer (some ⟨w.heap.size, 0, none⟩))).put (some p) ((a.put (some x2) (.pointer (some ⟨w.heap.size, 0, none⟩))).eval z)).eval (.tmp x2) = .pointer (some ⟨w.heap.size, 0, none⟩) :=
                (eval_put_other _ _ _ _ (Ne.symm hpx)).trans hev
              refine wpT_value (v := .agg vs.toArray) (w' := w2) rfl ?_ ?_
              · show (execOp (((a.put (some x2) _).put none undef).put (some p) _).eval _).run P w2 = _
                simp only [execOp, Instr.loadAt, Sem.run_bind, Sem.run_pure]
                have : ((((a.put (some x2) (.pointer (some ⟨w.heap.size, 0, none⟩))).put none undef).put (some p) (((a.put (some x2) (.pointer (some ⟨w.heap.size, 0, none⟩))).put none undef).eval z)).eval (.tmp x2)) = .pointer (some ⟨w.heap.size, 0, none⟩) := hev2
                rw [this]
                simp [Instr.sureAddr, r3]
              have hG2 : GamR lvs G (rput (rput (rdel σ (some x2)) (some p) az) (some q) .inp) (((a.put (some x2) (.pointer (some ⟨w.heap.size, 0, none⟩))).put (some p) ((a.put (some x2) (.pointer (some ⟨w.heap.size, 0, none⟩))).eval z)).put (some q) (.agg vs.toArray)) := by
                refine GamR.put (nT := nT) (GamR.put (nT := nT) (hG.del (o := some x2)) (by rw [put_size]; exact hn) (by simpa [dlt, Nat.blt_eq] using hp) hden) (by simp only [put_size]; exact hn) (by simpa [dlt, Nat.blt_eq] using hq) hpv.symm
              have hk : Keeps X w w2 := ⟨hbel.size, fun b hb _ => hbel.block b hb⟩
              refine ih top j dv lo _ _ _ r0 hx Q X lvs bl A C vals bt cs s G pc w2 _ hlen hj (hS.fresh hbel) hbad hGE hdl hdv hG2 (by simp only [put_size]; exact hn) (by simp only [put_defers]; exact hdf) hsl (MdOK.keep (md := .inp true m') ⟨⟨vs, hpv, v2, v3⟩, hpl⟩ hk) ?_ ?_
              · intro a' w' vals' cs' s' ho hA hS' hv' htop
                refine q1 a' w' vals' cs' s' (by rw [hr]; exact ho) ⟨⟨hA.defers.trans (by simp only [put_defers]), (Turn.of_below hbel).trans hA.turn⟩, hA.size, ?_⟩ hS' hv' htop
                intro t ht
                simp only [wrT, wrC, wrO, List.filterMap_cons, hdst, List.mem_append, List.mem_cons, List.filterMap_nil, List.not_mem_nil, not_or, or_false] at ht
                have h1 := hA.same t (by simp only [wrT, wrO, List.mem_append, not_or]; exact ⟨by simpa using ht.2.1.2.2, ht.2.2⟩)
                rw [h1, eval_put_other _ _ _ _ ht.2.1.2.1, eval_put_other _ _ _ _ ht.2.1.1]
                exact eval_put_other _ _ _ _ ht.1
              · intro a' w' ho hA hE2
                exact q2 a' w' (by rw [hr]; exact ho) ⟨hA.defers.trans (by simp only [put_defers]), (Turn.of_below hbel).trans hA.turn⟩ hE2
            · cases hst
          · cases hst
        · cases hst
      · rename_i p z ty2 ps2 af2 p2 z2 ty4 ps4 af4 q t2 x2 ty3 ps3 af3 rest hops2
        split at hst
        · rename_i hcond
          simp only [Bool.and_eq_true, Nat.beq_eq, Bool.not_eq_true', Nat.blt_eq] at hcond
          obtain ⟨⟨⟨⟨⟨⟨⟨⟨⟨rfl, rfl⟩, rfl⟩, rfl⟩, hpx⟩, hpx2⟩, hbox⟩, hp⟩, hp2⟩, hq⟩ := hcond
          have hpx : p ≠ x2 := by intro e; subst e; simp at hpx
          have hpx2 : p2 ≠ x2 := by intro e; subst e; simp at hpx2
          split at hst
          · rename_i az m' agz hy hz hsz'
            split at hst
            · rename_i az2 hz2
              split at hst
              · rename_i hnm
                have hnm := Nat.eq_of_beq_eq_true hnm
                subst hnm
                cases hst
                obtain rfl : ops2 = ((⟨some p, .move z, ty2, ps2, af2, none⟩ :: ⟨some p2, .move z2, ty4, ps4, af4, none⟩ :: ⟨some q, .load t2 (.tmp x2), ty3, ps3, af3, none⟩ :: rest : List Oper)).toArray := Array.toList_inj.1 (by simpa using hops2)
                have hv1 := avR_ok (a := a.put (some x2) (.pointer (some ⟨w.heap.size, 0, none⟩))) (hG.del (o := some x2)) hy
                simp only [DenR] at hv1
                obtain ⟨hrep, hpl⟩ := hM
                obtain ⟨vs, hpv, v2, v3⟩ := hrep
                have hone : ∀ v ∈ vs, v.oneCell' = true := by
                  intro v hv
                  obtain ⟨i, hi⟩ := List.mem_iff_getElem?.1 hv
                  have hlt : i < pc.length := by rw [← v2]; exact (List.getElem?_eq_some_iff.1 hi).1
                  exact (v3 i v _ hi (List.getElem?_eq_getElem hlt)).oneCell
                obtain ⟨dd, ii, zz, b1, b2, b3, b4, b5⟩ := hT.boxes t2 (has_iff.1 hbox)
                obtain ⟨_, ii', _, b3', b6, _, _⟩ := hT.sizes t2 m' agz (look_mem hsz')
                rw [b3] at b3'; cases b3'
                obtain ⟨w1, w2, r1, r2, r3, hbel, hblk⟩ := box_ok (P := P) b1 b2 b3 b4 b5 vs (by rw [v2, hpl, b6]) hone w
                have hx2 : x2 < nT := dlt_lt hd hdst
                have hev := eval_put_same a x2 (.pointer (some ⟨w.heap.size, 0, none⟩)) (by rw [hn]; exact hx2)
                refine wpT_value hg (v := .pointer (some ⟨w.heap.size, 0, none⟩)) (w' := w1) ?_ ?_
                · simp [execOp, hop, r1]
                rw [hdst]
                refine wpT_unit (w' := w2) rfl ?_ ?_
                · simp [execOp, Instr.storeAt, hev, hv1, hpv, Instr.sureAddr, r2]
                refine wpT_ops_nil (wpT_region ?_)
                have hden := avR_ok (a := a.put (some x2) (.pointer (some ⟨w.heap.size, 0, none⟩))) (hG.del (o := some x2)) hz
                refine wpT_value rfl (run_move _ _ rfl) ?_
                have hG1 : GamR lvs G (rput (rdel σ (some x2)) (some p) az) ((a.put (some x2) (.pointer (some ⟨w.heap.size, 0, none⟩))).put (some p) ((a.put (some x2) (.pointer (some ⟨w.heap.size, 0, none⟩))).eval z)) := GamR.put (nT := nT) (hG.del (o := some x2)) (by rw [put_size]; exact hn) (by simpa [dlt, Nat.blt_eq] using hp) hden
                have hden2 := avR_ok hG1 hz2
                refine wpT_value rfl (run_move _ _ rfl) ?_
                have hev2 : (((a.put (some x2) (.pointer (some ⟨w.heap.size, 0, none⟩))).put (some p) ((a.put (some x2) (.pointer (some ⟨w.heap.size, 0, none⟩))).eval z)).put (some p2) (((a.put (some x2) (.pointer (some ⟨w.heap.size, 0, none⟩))).put (some p) ((a.put (some x2) (.pointer (some ⟨w.heap.size, 0, none⟩))).eval z)).eval z2)).eval (.tmp x2) = .pointer (some ⟨w.heap.size, 0, none⟩) :=
                  (eval_put_other _ _ _ _ (Ne.symm hpx2)).trans ((eval_put_other _ _ _ _ (Ne.symm hpx)).trans hev)
                refine wpT_value (v := .agg vs.toArray) (w' := w2) rfl ?_ ?_
                · show (execOp ((((a.put (some x2) (.pointer (some ⟨w.heap.size, 0, none⟩))).put (some p) ((a.put (some x2) (.pointer (some ⟨w.heap.size, 0, none⟩))).eval z)).put (some p2) (((a.put (some x2) (.pointer (some ⟨w.heap.size, 0, none⟩))).put (some p) ((a.put (some x2) (.pointer (some ⟨w.heap.size, 0, none⟩))).eval z)).eval z2)).eval) _).run P w2 = _
                  simp only [execOp, Instr.loadAt, Sem.run_bind, Sem.run_pure]
                  rw [hev2]
                  simp [Instr.sureAddr, r3]
                have hG2 : GamR lvs G (rput (rput (rput (rdel σ (some x2)) (some p) az) (some p2) az2) (some q) .inp) ((((a.put (some x2) (.pointer (some ⟨w.heap.size, 0, none⟩))).put (some p) ((a.put (some x2) (.pointer (some ⟨w.heap.size, 0, none⟩))).eval z)).put (some p2) (((a.put (some x2) (.pointer (some ⟨w.heap.size, 0, none⟩))).put (some p) ((a.put (some x2) (.pointer (some ⟨w.heap.size, 0, none⟩))).eval z)).eval z2)).put (some q) (.agg vs.toArray)) := by
                  refine GamR.put (nT := nT) (GamR.put (nT := nT) hG1 (by simp only [put_size]; exact hn) (by simpa [dlt, Nat.blt_eq] using hp2) hden2) (by simp only [put_size]; exact hn) (by simpa [dlt, Nat.blt_eq] using hq) hpv.symm
                have hk : Keeps X w w2 := ⟨hbel.size, fun b hb _ => hbel.block b hb⟩
                refine ih top j dv lo _ _ _ r0 hx Q X lvs bl A C vals bt cs s G pc w2 _ hlen hj (hS.fresh hbel) hbad hGE hdl hdv hG2 (by simp only [put_size]; exact hn) (by simp only [put_defers]; exact hdf) hsl (MdOK.keep (md := .inp true m') ⟨⟨vs, hpv, v2, v3⟩, hpl⟩ hk) ?_ ?_
                · intro a' w' vals' cs' s' ho hA hS' hv' htop
                  refine q1 a' w' vals' cs' s' (by rw [hr]; exact ho) ⟨⟨hA.defers.trans (by simp only [put_defers]), (Turn.of_below hbel).trans hA.turn⟩, hA.size, ?_⟩ hS' hv' htop
                  intro t ht
                  simp only [wrT, wrC, wrO, List.filterMap_cons, hdst, List.mem_append, List.mem_cons, List.filterMap_nil, List.not_mem_nil, not_or, or_false] at ht
                  have h1 := hA.same t (by simp only [wrT, wrO, List.mem_append, not_or]; exact ⟨by simpa using ht.2.1.2.2.2, ht.2.2⟩)
                  rw [h1, eval_put_other _ _ _ _ ht.2.1.2.2.1, eval_put_other _ _ _ _ ht.2.1.2.1, eval_put_other _ _ _ _ ht.2.1.1]
                  exact eval_put_other _ _ _ _ ht.1
                · intro a' w' ho hA hE2
                  exact q2 a' w' (by rw [hr]; exact ho) ⟨hA.defers.trans (by simp only [put_defers]), (Turn.of_below hbel).trans hA.turn⟩ hE2
              · cases hst
            · cases hst
          · cases hst
        · cases hst
      · cases hst
    · cases hst
  · cases hst
end
end Go.Proofs.Eng
/-! The executor of reading tells the truth: whole. -/
namespace Go.Proofs.Eng
open Go Go.RowKit

section
variable {P : Program} {T : Tab} {R : TabR} {nT rr tR g : Nat} {E : Value}
theorem hard_go {j lo : Nat} {dv : List Value} {σ : SR} {md : Md} {all : Array Oper} {o : Oper} {l : List Oper} {k : List TD} : stepHard T R nT j lo dv σ md all o l k = .fail ∨ ∃ lo' σ' md' todo' wr, stepHard T R nT j lo dv σ md all o l k = .go lo' σ' md' todo' wr := by
  unfold stepHard
  split
  · split
    · unfold stepCall
      repeat' split
      all_goals first | exact .inl rfl | exact .inr ⟨_, _, _, _, _, rfl⟩
    · exact .inl rfl
  · unfold stepStore
    repeat' split
    all_goals first | exact .inl rfl | exact .inr ⟨_, _, _, _, _, rfl⟩
  · unfold stepEmpty
    repeat' split
    all_goals first | exact .inl rfl | exact .inr ⟨_, _, _, _, _, rfl⟩
  · unfold stepAlloc
    repeat' split
    all_goals first | exact .inl rfl | exact .inr ⟨_, _, _, _, _, rfl⟩
  · exact .inl rfl

theorem execR_ok (hT : TabOK P T) (hR : TabROK P R tR g E) : ∀ n, Truth P T R nT rr tR g E n := by
  intro n
  induction n with
  | zero => intro top j dv lo σ md todo r h; simp [execR] at h
  | succ n ih =>
    intro top j dv lo σ md todo r h Q X lvs bl A C vals bt cs s G pc w a hlen hj hS hbad hGE hdl hdv hG hn hdf hsl hM q1 q2
    have hcell : ∀ k v, lo ≤ k → dv[k]? = some v → w.cell? ⟨bl, A.length + k, none⟩ = some v := fun k v hk hv => cell_row hS.row ((hdv k hk).trans hv)
    cases todo with
    | nil =>
      by_cases hc : (!top && isNone md) = true
      · have hst : stepR T R nT rr top j dv lo σ md [] = .done := by simp only [stepR]; rw [if_pos hc]
        have hr := done_inv h hst
        simp only [Bool.and_eq_true, Bool.not_eq_true'] at hc
        obtain ⟨rfl, hm⟩ := hc
        have := isNone_eq hm
        subst this
        subst hr
        exact q1 a w vals cs s rfl ⟨⟨rfl, Turn.refl _ _ _⟩, hn, fun _ _ => rfl⟩ hS rfl (by intro h; cases h)
      · exact absurd (by simp only [stepR]; rw [if_neg hc]) (fail_inv h)
    | cons t k =>
      cases t with
      | ops all l =>
        cases l with
        | nil =>
          obtain ⟨r0, hx, hr⟩ := go_inv h (show stepR T R nT rr top j dv lo σ md (.ops all [] :: k) = .go lo σ md k .same from rfl)
          subst hr
          exact wpT_ops_nil (ih top j dv lo σ md k r hx Q X lvs bl A C vals bt cs s G pc w a hlen hj hS hbad hGE hdl hdv hG hn hdf hsl hM
            (fun a' w' vals' cs' s' ho hA => q1 a' w' vals' cs' s' ho (hA.sub (fun t ht => by simpa [wrT, wrO] using ht))) q2)
        | cons o l =>
          have hstR : stepR T R nT rr top j dv lo σ md (.ops all (o :: l) :: k) = stepOp T R nT j lo dv σ md all o l k := rfl
          have hwr : ∀ t, t ∉ wrT (.ops all (o :: l) :: k) → t ∉ wrT (.ops all l :: k) ∧ some t ≠ o.dst := by
            intro t ht
            simp only [wrT, List.mem_append, not_or] at ht ⊢
            obtain ⟨h1, h2⟩ := wrO_cons ht.1
            exact ⟨⟨h2, ht.2⟩, h1⟩
          by_cases hd : dlt o.dst nT = true
          · have next : ∀ (v : Value) (σ' : SR) (r' : Res), execR T R nT rr n top j dv lo σ' md (.ops all l :: k) = some r' → r = r' → GamR lvs G σ' (a.put o.dst v) → wpT P Q (.ops all l :: k) (a.put o.dst v) w := by
              intro v σ' r' hx hr hG'
              subst hr
              refine ih top j dv lo σ' md _ r hx Q X lvs bl A C vals bt cs s G pc w _ hlen hj hS hbad hGE hdl hdv hG' (by rw [put_size]; exact hn) (by rw [put_defers]; exact hdf) hsl hM ?_ ?_
              · intro a' w' vals'' cs'' s'' hoo hA hS'' hv'' htop
                exact q1 a' w' vals'' cs'' s'' hoo (hA.step hwr (Turn.refl _ _ _)) hS'' hv'' htop
              · intro a' w' hoo hA hE2
                exact q2 a' w' hoo (hA.step (Turn.refl _ _ _)) hE2
            cases hgd : gdR σ all o.guard with
            | none => exact absurd (by rw [hstR]; unfold stepOp; rw [if_pos hd, hgd]) (fail_inv h)
            | some b =>
              have hg := gdR_true hG hgd
              cases b with
              | false =>
                obtain ⟨r0, hx, hr⟩ := go_inv h (show stepR T R nT rr top j dv lo σ md (.ops all (o :: l) :: k) = .go lo (rdel σ o.dst) md (.ops all l :: k) .same by rw [hstR]; unfold stepOp; rw [if_pos hd, hgd])
                exact wpT_op_skip hg (next _ _ r0 hx hr hG.del)
              | true =>
                cases hp : popR T j dv lo σ o.op with
                | some x =>
                  obtain ⟨r0, hx, hr⟩ := go_inv h (show stepR T R nT rr top j dv lo σ md (.ops all (o :: l) :: k) = .go lo (rput σ o.dst x) md (.ops all l :: k) .same by rw [hstR]; unfold stepOp; rw [if_pos hd, hgd]; simp only [hp])
                  obtain ⟨v, hrun, hden⟩ := popR_ok hT hG hsl hj hcell o hp
                  exact wpT_value hg hrun (next v _ r0 hx hr (hG.put hn hd hden))
                | none =>
                  have hst2 : stepR T R nT rr top j dv lo σ md (.ops all (o :: l) :: k) = stepHard T R nT j lo dv σ md all o l k := by rw [hstR]; unfold stepOp; rw [if_pos hd, hgd]; simp only [hp]
                  rcases hard_go (T := T) (R := R) (nT := nT) (j := j) (lo := lo) (dv := dv) (σ := σ) (md := md) (all := all) (o := o) (l := l) (k := k) with hf | ⟨lo', σ', md', todo', wr, hgo⟩
                  · exact absurd (hst2.trans hf) (fail_inv h)
                  · obtain ⟨r0, hx, hr⟩ := go_inv h (hst2.trans hgo)
                    exact hard_case hT hR ih hd hgo hx hr Q X lvs bl A C vals bt cs s G pc w a hg hlen hj hS hbad hGE hdl hdv hG hn hdf hsl hM q1 q2
          · exact absurd (by rw [hstR]; unfold stepOp; rw [if_neg hd]) (fail_inv h)
      | code c =>
        have hstR : stepR T R nT rr top j dv lo σ md (.code c :: k) = stepCode T R nT rr top j lo dv σ md k c := rfl
        have step : ∀ {todo' : List TD} {r0 : Res}, execR T R nT rr n top j dv lo σ md todo' = some r0 → r = r0 → (∀ t, t ∉ wrT (.code c :: k) → t ∉ wrT todo') → wpT P Q todo' a w := by
          intro todo' r0 hx hr hw
          subst hr
          exact ih top j dv lo σ md todo' r hx Q X lvs bl A C vals bt cs s G pc w a hlen hj hS hbad hGE hdl hdv hG hn hdf hsl hM (fun a' w' vals' cs' s' ho hA => q1 a' w' vals' cs' s' ho (hA.sub hw)) q2
        cases c with
        | skip =>
          obtain ⟨r0, hx, hr⟩ := go_inv h (hstR.trans rfl)
          exact wpT_skip (step hx hr (fun t ht => by simpa [wrT, wrC] using ht))
        | seq x y =>
          obtain ⟨r0, hx, hr⟩ := go_inv h (hstR.trans rfl)
          refine wpT_flat (.seq x y) (step hx hr ?_)
          intro t ht
          have key : ∀ (l : List Code) (k : List TD), wrT (l.map .code ++ k) = l.flatMap wrC ++ wrT k := by
            intro l
            induction l with
            | nil => intro k; rfl
            | cons c l ih => intro k; simp only [List.map_cons, List.cons_append, wrT, List.flatMap_cons, ih, List.append_assoc]
          rw [key, ← wrC_flat]
          simpa [wrT] using ht
        | region id ops dr =>
          cases dr with
          | true => exact absurd (hstR.trans rfl) (fail_inv h)
          | false =>
            obtain ⟨r0, hx, hr⟩ := go_inv h (hstR.trans rfl)
            exact wpT_region (step hx hr (fun t ht => by simpa [wrT, wrC] using ht))
        | ret =>
          by_cases hc : (top && isNone md && isCpl (look σ rr)) = true
          · have hst : stepR T R nT rr top j dv lo σ md (.code .ret :: k) = .done := by rw [hstR]; simp only [stepCode]; rw [if_pos hc]
            have hr := done_inv h hst
            simp only [Bool.and_eq_true] at hc
            obtain ⟨⟨rfl, hm⟩, hl⟩ := hc
            have := isNone_eq hm
            subst this
            subst hr
            have he := hG rr _ (look_mem (isCpl_eq hl))
            simp only [DenR] at he
            rw [hbad, hGE] at he
            exact wpT_ret (q1 a w vals cs s rfl ⟨⟨rfl, Turn.refl _ _ _⟩, hn, fun _ _ => rfl⟩ hS rfl (fun _ => he))
          · exact absurd (by rw [hstR]; simp only [stepCode]; rw [if_neg hc]) (fail_inv h)
        | cond cd x y =>
          have hstC : stepR T R nT rr top j dv lo σ md (.code (.cond cd x y) :: k) = stepCond T R nT rr j lo dv σ md cd x y k := rfl
          cases hav : avR σ cd with
          | none => exact absurd (by rw [hstC]; unfold stepCond; rw [hav]) (fail_inv h)
          | some av =>
            have hv := avR_ok hG hav
            cases av with
            | cst v =>
              by_cases hb : ∃ b, v = .bool b
              · obtain ⟨b, rfl⟩ := hb
                cases b with
                | true =>
                  cases hh : (if isNoneM md then hookR R nT rr j lo dv σ x else none) with
                  | none =>
                    obtain ⟨r0, hx, hr⟩ := go_inv h (show _ = St.go lo σ md (.code x :: k) .same by rw [hstC]; unfold stepCond; rw [hav]; simp only [hh])
                    exact wpT_cond (b := true) hv (step hx hr (fun t ht => by simp only [wrT, wrC, List.mem_append, not_or] at ht ⊢; exact ⟨ht.1.1, ht.2⟩))
                  | some H =>
                    obtain ⟨r0, hx, hr⟩ := go_inv h (show _ = St.go (H.ot + 1) ((onlyStay σ).filter fun p => !has (wrC x) p.1) .none k (.ktag H.off H.w H.body H.ot) by rw [hstC]; unfold stepCond; rw [hav]; simp only [hh])
                    subst hr
                    split at hh
                    · rename_i hmd
                      obtain rfl : md = .none := by cases md <;> simp_all [isNoneM]
                      obtain ⟨hm, hb⟩ := findB_ok hh
                      simp only [Bool.and_eq_true, Nat.beq_eq, Nat.ble_eq, Nat.blt_eq] at hb
                      obtain ⟨⟨⟨⟨⟨⟨⟨⟨⟨⟨b1, b2⟩, b3⟩, b4⟩, b5⟩, b6⟩, b7⟩, b8⟩, b9⟩, b10⟩, b11⟩ := hb
                      have hxc := codeEq_ok b1
                      subst b3
                      refine wpT_cond (b := true) hv ?_
                      show wpT P Q (.code x :: k) a w
                      rw [← hxc]
                      have hrdv : a.eval (.tmp H.rd) = .pointer (some ⟨G.rb, 0, none⟩) := by
                        unfold isRdr at b4
                        split at b4
                        · rename_i hl; exact hG _ _ (look_mem hl)
                        · cases b4
                      have hpv : a.eval (.tmp H.pv) = .pointer (some ⟨bl, A.length, none⟩) := by
                        unfold isPj at b5
                        split at b5
                        · rename_i j' hl
                          have := Nat.eq_of_beq_eq_true b5
                          subst this
                          obtain ⟨M, hM1, hM2⟩ := hG _ _ (look_mem hl)
                          rw [hj] at hM1
                          cases hM1
                          exact hM2
                        · cases b5
                      have hmap : vals[H.ot]? = some (.map none) := by
                        rw [hdv H.ot b7]
                        unfold isMap0 at b9
                        split at b9
                        · rename_i h9; exact h9
                        · cases b9
                      have hwx : ∀ z, z ∉ wrC x → z ∉ wrC H.code := fun z hz => by rw [hxc]; exact hz
                      have hkn : ∀ p ∈ H.kn, a.eval (.tmp p.1) = p.2 := by
                        intro p hp
                        have h10 := allB_mem b10 p hp
                        unfold isKnR at h10
                        split at h10
                        · rename_i hl
                          rw [← veq_ok h10]
                          exact hG _ _ (look_mem hl)
                        · cases h10
                      have hkv : ∀ p ∈ H.kv, vals[p.1]? = some p.2 := by
                        intro p hp
                        have h11 := allB_mem b11 p hp
                        simp only [isKv, Bool.and_eq_true, Nat.ble_eq] at h11
                        obtain ⟨h12, h13⟩ := h11
                        rw [hdv _ h12]
                        split at h13
                        · rename_i h14
                          rw [h14, veq_ok h13]
                        · cases h13
                      refine hR.hk H hm X bl A C vals bt cs s G.rb w a Q k hS (hn.trans b2.symm) hdf hrdv hpv hmap b6 hkn hkv ?_ ?_
                      · intro a1 w1 vals1 v l s1 hkl hA hS1 hv1 hk1
                        refine ih top j dv (H.ot + 1) _ .none k r0 hx Q X lvs bl A C vals1 bt _ s1 ⟨G.rb, G.pv, G.sl, G.l, s1.bad, E, G.ix⟩ pc w1 a1 hlen hj hS1 rfl rfl (hdl.trans hv1.symm) (fun q hq => (hk1 q (by omega)).trans (hdv q (by omega))) ?_ (hA.size.trans b2) (hA.defers.trans hdf) hsl trivial ?_ ?_
                        · intro z y hy
                          rw [List.mem_filter] at hy
                          have hz : z ∉ wrC x := by
                            intro hmz
                            have := has_iff.2 hmz
                            simp [this] at hy
                          have := (hG.stay (G' := ⟨G.rb, G.pv, G.sl, G.l, s1.bad, E, G.ix⟩) rfl rfl) z y hy.1
                          rw [hA.same z (hwx z hz)]
                          exact this
                        · intro a' w' vals' cs' s' ho hA2 hS2 hv2 htop
                          refine q1 a' w' vals' cs' s' (by simp only [outc, wrapR, Res.just, runR, hkl]; exact ho) ⟨⟨hA2.defers.trans hA.defers, hA.turn.trans hA2.turn⟩, hA2.size, fun z hz => ?_⟩ hS2 (hv2.trans hv1) htop
                          simp only [wrT, wrC, List.mem_append, not_or] at hz
                          rw [hA2.same z hz.2]
                          exact hA.same z (hwx z hz.1.1)
                        · intro a' w' ho hA2 hE2
                          exact q2 a' w' (by simp only [outc, wrapR, Res.just, runR, hkl]; exact ho) ⟨hA2.defers.trans hA.defers, hA.turn.trans hA2.turn⟩ hE2
                      · intro a' w' hkl hA hE2
                        exact q2 a' w' (by simp only [outc, wrapR, Res.just, runR, hkl]) hA hE2
                    · cases hh
                | false =>
                  obtain ⟨r0, hx, hr⟩ := go_inv h (show _ = St.go lo σ md (.code y :: k) .same by rw [hstC]; unfold stepCond; rw [hav])
                  exact wpT_cond (b := false) hv (step hx hr (fun t ht => by simp only [wrT, wrC, List.mem_append, not_or] at ht ⊢; exact ⟨ht.1.2, ht.2⟩))
              · refine absurd ?_ (fail_inv h)
                rw [hstC]
                unfold stepCond
                rw [hav]
                cases v <;> first | rfl | (exfalso; exact hb ⟨_, rfl⟩)
            | nok =>
              have hst2 : stepR T R nT rr top j dv lo σ md (.code (.cond cd x y) :: k) = stepNok R nT rr lo σ x y k md := by rw [hstC]; unfold stepCond; rw [hav]
              cases md with
              | none => exact absurd (hst2.trans rfl) (fail_inv h)
              | inp _ _ => exact absurd (hst2.trans rfl) (fail_inv h)
              | len nul okd =>
                cases okd with
                | true => exact absurd (hst2.trans rfl) (fail_inv h)
                | false =>
                  by_cases hc : (isSkip y && isOut R nT rr σ x) = true
                  · obtain ⟨r0, hx, hr⟩ := go_inv h (show _ = St.go lo σ (.len nul true) k .same by rw [hst2]; simp only [stepNok]; rw [if_pos hc])
                    simp only [Bool.and_eq_true] at hc
                    obtain ⟨hy, hout⟩ := hc
                    have := isSkip_eq hy
                    subst this
                    obtain ⟨id, d, xr, ts, y1, y2, s1, s2, e1, e2, hfl, hxr, hdn, hrn⟩ := isOut_inv hout
                    simp only [DenR] at hv
                    refine wpT_cond hv ?_
                    cases hgb : G.bad with
                    | true =>
                      refine wpT_flat x ?_
                      rw [hfl]
                      refine wpT_region ?_
                      refine wpT_enter rfl (run_callf hR.cpl.2 a.eval rfl _ _ _ rfl w) ?_
                      have hxv : a.eval (.tmp xr) = .pointer (some ⟨G.rb, 0, none⟩) := hG _ _ (look_mem hxr)
                      simp only [List.map_toArray, List.map_cons, List.map_nil, hxv]
                      refine (hR.cpl.1 w X G.rb s hS.rd hS.err).mono ?_
                      rintro e w' ⟨rfl, rfl⟩
                      refine ⟨_, rfl, ?_⟩
                      refine wpT_value rfl (run_assign _ _ rfl) (wpT_ops_nil (wpT_ret ?_))
                      have hsb : s.bad = true := hbad ▸ hgb
                      rw [eval_put_same _ _ _ (by rw [hn]; exact hdn), hsb]
                      refine q2 _ _ ?_ ⟨by simp only [put_defers], Turn.refl _ _ _⟩ (eval_put_same _ _ _ (by rw [put_size, hn]; exact hrn))
                      simp only [outc, hsb]
                      rfl
                    | false =>
                      refine wpT_skip ?_
                      have hsb : s.bad = false := hbad ▸ hgb
                      subst hr
                      obtain ⟨m1, m2, m3, m4⟩ := hM
                      exact ih top j dv lo σ (.len nul true) k r hx Q X lvs bl A C vals bt cs s G pc w a hlen hj hS hbad hGE hdl hdv hG hn hdf hsl ⟨m1, m2, fun _ => hsb, m4⟩
                        (fun a' w' vals' cs' s' ho hA => q1 a' w' vals' cs' s' ho (hA.sub (fun t ht => by simp only [wrT, wrC, List.mem_append, not_or] at ht; exact ht.2))) q2
                  · exact absurd (by rw [hst2]; simp only [stepNok]; rw [if_neg hc]) (fail_inv h)
            | lz =>
              have hst2 : stepR T R nT rr top j dv lo σ md (.code (.cond cd x y) :: k) = stepLz R nT lo σ x y k md := by rw [hstC]; unfold stepCond; rw [hav]
              have hne := fail_inv h
              rw [hst2] at hne
              unfold stepLz at hst2 hne
              split at hst2
              · rename_i okd
                split at hst2
                · rename_i d aa hae
                  split at hst2
                  · rename_i hla
                    split at hst2
                    · rename_i hc
                      obtain ⟨r0, hx, hr⟩ := go_inv h hst2
                      simp only [Bool.and_eq_true, Nat.blt_eq] at hc
                      obtain ⟨⟨hy, hdn⟩, han⟩ := hc
                      have := isSkip_eq hy
                      subst this
                      obtain ⟨id, t, y1, y2, s1, s2, e1, e2, ks, zs, rfl, hl⟩ := asEmpty_inv hae
                      obtain ⟨e, i, z, g1, g2, g3, _⟩ := hR.els t ks zs (look_mem hl)
                      obtain ⟨m1, m2, m3, m4⟩ := hM
                      simp only [DenR] at hv
                      refine wpT_cond hv ?_
                      subst hr
                      have hnil : G.sl = .slice none 0 0 := by
                        rcases m4 with ⟨h1, _⟩ | ⟨_, _, _, _, _, h4⟩
                        · exact h1
                        · omega
                      by_cases hl0 : G.l = 0
                      · rw [if_pos (by simp [hl0])]
                        have hbel := below_newblk w (.cells #[] e)
                        refine wpT_region ?_
                        refine wpT_value rfl (run_bs0g g1 g2 g3 rfl) ?_
                        refine wpT_value rfl (run_assign _ _ rfl) (wpT_ops_nil ?_)
                        rw [eval_put_same _ _ _ (by rw [hn]; exact hdn)]
                        refine ih top j dv lo _ (.len 1 okd) k r hx Q X lvs bl A C vals bt cs s ⟨G.rb, G.pv, .slice (some ⟨w.heap.size, 0, none⟩) 0 0, G.l, G.bad, G.E, G.ix⟩ pc _ _ hlen hj (hS.fresh hbel) hbad hGE hdl hdv ?_ (by simp only [put_size]; exact hn) (by simp only [put_defers]; exact hdf) (.inr ⟨_, rfl⟩)
                          ⟨m1, m2, m3, .inr ⟨_, e, rfl, fun hx => absurd (hS.lt _ hx) (Nat.lt_irrefl _), heap_alloc_new w _, .inr ⟨rfl, hl0⟩⟩⟩ ?_ ?_
                        · refine GamR.put (nT := nT) (GamR.del (o := some d) ?_) (by rw [put_size]; exact hn) (by simpa [dlt, Nat.blt_eq] using han) rfl
                          intro t y hy
                          simp only [noSl, List.mem_filter] at hy
                          exact (hG t y hy.1).sl hy.2
                        · intro a' w' vals' cs' s' ho hA hS' hv' htop
                          refine q1 a' w' vals' cs' s' ho ⟨⟨hA.defers.trans (by simp only [put_defers]), (Turn.of_below hbel).trans hA.turn⟩, hA.size, ?_⟩ hS' hv' htop
                          intro t ht
                          simp only [wrT, wrC, wrO, List.mem_append, not_or, List.filterMap_cons, List.filterMap_nil, List.mem_cons, List.not_mem_nil, or_false] at ht
                          rw [hA.same t ht.2, eval_put_other _ _ _ _ ht.1.2, eval_put_other _ _ _ _ ht.1.1]
                        · intro a' w' ho hA hE2
                          exact q2 a' w' ho ⟨hA.defers.trans (by simp only [put_defers]), (Turn.of_below hbel).trans hA.turn⟩ hE2
                      · rw [if_neg (by simp [hl0])]
                        refine wpT_skip ?_
                        refine ih top j dv lo _ (.len 1 okd) k r hx Q X lvs bl A C vals bt cs s ⟨G.rb, G.pv, .slice none 0 0, G.l, G.bad, G.E, G.ix⟩ pc w a hlen hj hS hbad hGE hdl hdv ?_ hn hdf (.inl rfl)
                          ⟨m1, m2, m3, .inl ⟨rfl, .inr ⟨rfl, hl0⟩⟩⟩ (fun a' w' vals' cs' s' ho hA => q1 a' w' vals' cs' s' ho (hA.sub (fun t ht => by simp only [wrT, List.mem_append, not_or] at ht; exact ht.2))) q2
                        intro t y hy
                        simp only [rput, rdel, noSl, List.mem_cons, Prod.mk.injEq, List.mem_filter] at hy
                        rcases hy with ⟨rfl, rfl⟩ | hy
                        · exact hG _ _ (look_mem hla)
                        · exact (hG t y hy.1.1.1).sl hy.1.1.2
                    · exact absurd hst2 (fail_inv h)
                  · exact absurd hst2 (fail_inv h)
                · exact absurd hst2 (fail_inv h)
              · exact absurd hst2 (fail_inv h)
            | lp =>
              have hst2 : stepR T R nT rr top j dv lo σ md (.code (.cond cd x y) :: k) = stepLp T R nT j σ x y md k := by rw [hstC]; unfold stepCond; rw [hav]
              unfold stepLp at hst2
              split at hst2
              · rename_i nul id0 o0 id b k'
                split at hst2
                · rename_i B i0 hB hi0
                  split at hst2
                  · rename_i L hL
                    unfold stepLpS at hst2
                    split at hst2
                    · rename_i hok
                      split at hst2
                      · rename_i ks zs m ss he hf
                        split at hst2
                        · rename_i hms
                          split at hst2
                          · rename_i d hd
                            obtain ⟨rb, r0, hxB, hx, hr⟩ := loop_inv h hst2
                            simp only [lpOk, Bool.and_eq_true, Nat.beq_eq, Bool.not_eq_true', Nat.blt_eq] at hok
                            obtain ⟨⟨⟨⟨⟨⟨⟨⟨⟨⟨⟨⟨⟨⟨⟨hy, hii⟩, hl⟩, ha⟩, ht⟩, hhas⟩, hia⟩, hno⟩, hlen'⟩, h32⟩, n1⟩, n2⟩, n3⟩, n4⟩, n5⟩, nw⟩ := hok
                            have := isSkip_eq hy
                            subst this
                            subst hr
                            simp only [Bool.and_eq_true] at hms
                            have ne : ∀ {x y : Nat}, x.beq y = false → x ≠ y := fun h e => by subst e; simp at h
                            exact lp_case hT hR ih hav hB (by rw [hi0, hii]) hL hl ha ht (fun hm => by rw [has_iff.2 hm] at hhas; cases hhas) (ne hia) hno (isLen_eq hlen') (isK32_eq h32) ⟨n1, n2, n3, n4, n5⟩
                              (fun x hx => by have := allB_mem nw x hx; simpa [Nat.blt_eq] using this) he hf (Nat.le_of_ble_eq_true hms.1) (fun p hp => by have := allB_mem hms.2 p hp; simpa [Nat.blt_eq] using this) hd hxB hx
                              Q X lvs bl A C vals bt cs s G pc w a hlen hj hS hbad hGE hdl hdv hG hn hdf hM q1 q2
                          · exact absurd hst2 (fail_inv h)
                        · exact absurd hst2 (fail_inv h)
                      · exact absurd hst2 (fail_inv h)
                    · exact absurd hst2 (fail_inv h)
                  · split at hst2
                    · rename_i L hL
                      unfold stepLpP at hst2
                      split at hst2
                      · rename_i hok
                        split at hst2
                        · rename_i ks zs he
                          split at hst2
                          · rename_i d hd
                            obtain ⟨rb, r0, hxB, hx, hr⟩ := loop_inv h hst2
                            simp only [lpOkP, Bool.and_eq_true, Nat.beq_eq, Bool.not_eq_true', Nat.blt_eq] at hok
                            obtain ⟨⟨⟨⟨⟨⟨⟨⟨⟨⟨⟨⟨⟨⟨hy, hii⟩, hl⟩, ha⟩, hhas⟩, hia⟩, hno⟩, hlen'⟩, h32⟩, n1⟩, n2⟩, n3⟩, n4⟩, n5⟩, nw⟩ := hok
                            have := isSkip_eq hy
                            subst this
                            subst hr
                            have ne : ∀ {x y : Nat}, x.beq y = false → x ≠ y := fun h e => by subst e; simp at h
                            exact lp_caseP hT hR ih hav hB (by rw [hi0, hii]) hL hl ha (fun hm => by rw [has_iff.2 hm] at hhas; cases hhas) (ne hia) hno (isLen_eq hlen') (isK32_eq h32) ⟨n1, n2, n3, n4, n5⟩
                              (fun x hx => by have := allB_mem nw x hx; simpa [Nat.blt_eq] using this) he hd hxB hx
                              Q X lvs bl A C vals bt cs s G pc w a hlen hj hS hbad hGE hdl hdv hG hn hdf hM q1 q2
                          · exact absurd hst2 (fail_inv h)
                        · exact absurd hst2 (fail_inv h)
                      · exact absurd hst2 (fail_inv h)
                    · exact absurd hst2 (fail_inv h)
                · exact absurd hst2 (fail_inv h)
              · exact absurd hst2 (fail_inv h)
            | _ => exact absurd (by rw [hstC]; unfold stepCond; rw [hav]) (fail_inv h)
        | _ => exact absurd (hstR.trans rfl) (fail_inv h)
end
end Go.Proofs.Eng
/-! A function that reads a struct, by the executor. -/
namespace Go.Proofs.Eng
open Go Go.RowKit
attribute [local semireducible] wk wkD

structure EntR where
  rr : Nat
  fD : Nat
  rd : Nat
  rest : List Code
/-- How such a function begins: the result's slot, the defaults, the reader. -/
def asEntry (tR nT : Nat) (c : Code) : Option EntR := match flatC c with
  | .region _ o0 false :: .region _ o1 false :: .region _ o2 false :: rest => match o0.toList, o1.toList, o2.toList with
    | [⟨some rr, .assign (.const .nilIface), _, _, _, none⟩],
      [⟨some p, .move (.tmp 0), _, _, _, none⟩, ⟨some q, .call ⟨.value (.func fD), args, _⟩, _, _, _, none⟩],
      [⟨some p2, .move (.tmp 1), _, _, _, none⟩, ⟨some b, .build t1 parts, _, _, _, none⟩, ⟨some rd, .alloc t2, _, _, _, none⟩, ⟨none, .store t3 (.tmp rd') (.tmp b'), _, _, _, none⟩] =>
      match args.toList, parts.toList with
      | [.tmp p'], [(0, .tmp p2')] =>
        if Nat.beq p' p && Nat.beq p2' p2 && Nat.beq rd' rd && Nat.beq b' b && Nat.beq t1 tR && Nat.beq t2 tR && Nat.beq t3 tR && !has [rr, p, q, p2, b, rd] 0 && !has [rr, p, q, p2, b, rd] 1 && !has [rr, p, q, p2, b, rd] 2 && !Nat.beq rd b
          && allB (fun x => Nat.blt x nT) [rr, p, q, p2, b, rd] && Nat.ble 3 nT then some ⟨rr, fD, rd, rest⟩ else none
      | _, _ => none
    | _, _, _ => none
  | _ => none
structure EntI (tR nT : Nat) (c : Code) (L : EntR) (p q p2 b : Nat) : Prop where
  flat : ∃ i0 i1 i2 y0 y1 y2 y3 y4 y5 y6 s0 s1 s2 s3 s4 s5 s6 e0 e1 e2 e3 e4 e5 e6 ts, flatC c =
    .region i0 #[⟨some L.rr, .assign (.const .nilIface), y0, s0, e0, none⟩] false :: .region i1 #[⟨some p, .move (.tmp 0), y1, s1, e1, none⟩, ⟨some q, .call ⟨.value (.func L.fD), #[.tmp p], ts⟩, y2, s2, e2, none⟩] false ::
      .region i2 #[⟨some p2, .move (.tmp 1), y3, s3, e3, none⟩, ⟨some b, .build tR #[(0, .tmp p2)], y4, s4, e4, none⟩, ⟨some L.rd, .alloc tR, y5, s5, e5, none⟩, ⟨none, .store tR (.tmp L.rd) (.tmp b), y6, s6, e6, none⟩] false :: L.rest
  n0 : 0 ∉ [L.rr, p, q, p2, b, L.rd]
  n1 : 1 ∉ [L.rr, p, q, p2, b, L.rd]
  n2 : 2 ∉ [L.rr, p, q, p2, b, L.rd]
  rb : L.rd ≠ b
  lt : ∀ x ∈ [L.rr, p, q, p2, b, L.rd], x < nT
  n3 : 3 ≤ nT
theorem asEntry_inv {tR nT : Nat} {c : Code} {L : EntR} (h : asEntry tR nT c = some L) : ∃ p q p2 b, EntI tR nT c L p q p2 b := by
  unfold asEntry at h
  split at h
  · rename_i i0 o0 i1 o1 i2 o2 rest hf
    split at h
    · rename_i rr y0 s0 e0 p y1 s1 e1 q fD args ts y2 s2 e2 p2 y3 s3 e3 b t1 parts y4 s4 e4 rd t2 y5 s5 e5 t3 rd' b' y6 s6 e6 h0 h1 h2
      split at h
      · rename_i p' p2' hargs hparts
        split at h
        · rename_i hc
          simp only [Bool.and_eq_true, Nat.beq_eq, Bool.not_eq_true'] at hc
          obtain ⟨⟨⟨⟨⟨⟨⟨⟨⟨⟨⟨⟨rfl, rfl⟩, rfl⟩, rfl⟩, rfl⟩, rfl⟩, rfl⟩, a0⟩, a1⟩, a2⟩, a3⟩, a4⟩, a5⟩ := hc
          cases h
          have nh : ∀ {l : List Nat} {x : Nat}, has l x = false → x ∉ l := fun h hm => by rw [has_iff.2 hm] at h; cases h
          obtain rfl : o0 = #[_] := Array.toList_inj.1 h0
          obtain rfl : o1 = #[_, _] := Array.toList_inj.1 h1
          obtain rfl : o2 = #[_, _, _, _] := Array.toList_inj.1 h2
          obtain rfl : args = #[_] := Array.toList_inj.1 hargs
          obtain rfl : parts = #[_] := Array.toList_inj.1 hparts
          exact ⟨_, _, _, _, ⟨_, _, _, _, _, _, _, _, _, _, _, _, _, _, _, _, _, _, _, _, _, _, _, _, _, hf⟩, nh a0, nh a1, nh a2, fun e => by simp only at e; subst e; simp at a3, fun x hx => by have := allB_mem a4 x hx; simpa [Nat.blt_eq] using this, Nat.le_of_ble_eq_true a5⟩
        · cases h
      · cases h
    · cases h
  · cases h
/-- What a function that reads a struct of the cells 'dv' reads: by the executor. -/
def readB (T : Tab) (R : TabR) (tR n : Nat) (fn : Func) (dv : List Value) : Option RP := match fn.body with
  | none => none
  | some c => match asEntry tR fn.ntmps c with
    | none => none
    | some L => match fn.results.toList, look R.dt L.fD with
      | [.tmp r], some (m, ss) => if Nat.beq r L.rr && Nat.ble m dv.length && noop dv 0 ss then
          match execR T R fn.ntmps L.rr n true 0 dv 0 [(L.rd, .rdr), (0, .ptr 0 0), (2, .cst (.bool false))] .none (L.rest.map .code) with
          | some r => some r.k
          | none => none
        else none
      | _, _ => none

theorem calls_read {P : Program} {T : Tab} {R : TabR} {tR g : Nat} {E : Value} (hT : TabOK P T) (hR : TabROK P R tR g E) (hbuild : ∀ (A : Option Addr) (n c : Nat), P.built tR [(0, .slice A n c)] = some #[.slice A n c, .bool false]) {iR : TypeInfo} (hiR : P.info? tR = some iR) (hzR : iR.zero = some (.agg #[.slice none 0 0, .bool false])) (hsR : iR.size = 2)
    {f : Nat} {fn : Func} (hf : P.funcs[f]? = some fn) {n : Nat} {dv : List Value} {plan : RP} (hx : readB T R tR n fn dv = some plan) {ks : List K} {cs : List CV} (hcs : cvs0 ks dv = some cs)
    (w : World) (b0 : Nat) (bt : TypeId) (sv : Value) (src : Option (List UInt8)) (hb0 : w.heap[b0]? = some (.cells dv.toArray bt (0, 0))) (hsrc : SrcRep w (fun b => b = b0) sv src) (hone : sv.oneCell' = true) (hg : w.cell? ⟨g, 0, none⟩ = some E) (hg0 : g ≠ b0) :
    Calls P f #[.pointer (some ⟨b0, 0, none⟩), sv, .bool false] w fun e w' => w.grownBy w' (some b0) ∧ ∃ bad, e = .returned (errV E bad) ∧
      (bad = false → ∃ (out : List CV) (s' : RS) (vals' : List Value), runR plan cs ⟨src, false⟩ = some (out, s') ∧ s'.bad = false ∧ w'.heap[b0]? = some (.cells vals'.toArray bt (0, 0)) ∧ vals'.length = out.length ∧ vals'.length = dv.length ∧
        ∀ (k : Nat) (v : Value) (c : CV), vals'[k]? = some v → out[k]? = some c → Rep w' (fun b => b = b0) v c) ∧
      (bad = true → ∀ out s', runR plan cs ⟨src, false⟩ = some (out, s') → s'.bad = true) := by
  obtain ⟨A0, nn0, c0, rfl⟩ : ∃ A n c, sv = .slice A n c := by
    cases src with
    | none => exact ⟨_, _, _, hsrc⟩
    | some l =>
      obtain ⟨b, o, n, c, e, _⟩ := hsrc
      exact ⟨_, _, _, e⟩
  unfold readB at hx
  split at hx
  · cases hx
  · rename_i c hbody
    split at hx
    · cases hx
    · rename_i L hL
      split at hx
      · rename_i r m ss hres hdt
        split at hx
        · rename_i hcnd
          split at hx
          · rename_i rs hrun
            cases hx
            simp only [Bool.and_eq_true, Nat.beq_eq] at hcnd
            obtain ⟨⟨rfl, hm⟩, hno⟩ := hcnd
            have hm := Nat.le_of_ble_eq_true hm
            obtain ⟨p, q, p2, b, I⟩ := asEntry_inv hL
            obtain ⟨i0, i1, i2, y0, y1, y2, y3, y4, y5, y6, s0, s1, s2, s3, s4, s5, s6, e0, e1, e2, e3, e4, e5, e6, ts, hflat⟩ := I.flat
            have hresults : fn.results = #[.tmp L.rr] := Array.toList_inj.1 hres
            have n3 := I.n3
            refine calls_wk (args := [.pointer (some ⟨b0, 0, none⟩), (Value.slice A0 nn0 c0), .bool false]) hf hbody (by simpa using n3) ?_
            intro a ha
            have hn := ha.1
            have hd0 := ha.2.1
            have h0 : a.eval (.tmp 0) = .pointer (some ⟨b0, 0, none⟩) := ha.2.2 0 _ rfl
            have h1 : a.eval (.tmp 1) = (Value.slice A0 nn0 c0) := ha.2.2 1 _ rfl
            have h2 : a.eval (.tmp 2) = .bool false := ha.2.2 2 _ rfl
            have hlt : ∀ x ∈ [L.rr, p, q, p2, b, L.rd], x < fn.ntmps := I.lt
            have n0 := I.n0; have n1 := I.n1; have n2 := I.n2
            simp only [List.mem_cons, List.not_mem_nil, or_false, not_or] at n0 n1 n2
            refine wpT_flat c ?_
            rw [hflat]
            refine wpT_region ?_
            refine wpT_value rfl (run_assign _ _ rfl) (wpT_ops_nil ?_)
            rw [eval_const]
            refine wpT_region ?_
            refine wpT_value rfl (run_move _ _ rfl) ?_
            rw [eval_put_other _ _ _ _ n0.1, h0]
            obtain ⟨hcon, hcall⟩ := hR.dt L.fD m ss (look_mem hdt)
            refine wpT_enter rfl (run_callf hcall _ rfl _ _ _ rfl w) ?_
            simp only [List.map_toArray, List.map_cons, List.map_nil]
            rw [eval_put_same _ _ _ (by rw [put_size, hn]; exact hlt p (by simp))]
            refine (hcon w b0 0 _ bt hb0 (by simpa using hm)).mono ?_
            rintro e w1 ⟨rfl, hb1, hg1⟩
            refine ⟨_, rfl, wpT_ops_nil ?_⟩
            have hsame : setS dv.toArray 0 ss = dv.toArray := by
              have := setL_noop ss [] [] dv dv 0 0 hno (Nat.le_refl _) (fun _ _ => rfl)
              simpa using this
            rw [hsame] at hb1
            have hk1 : ∀ k, k < w.heap.size → w1.heap[k]? = w.heap[k]? := by
              intro k hk
              by_cases e : k = b0
              · subst e; rw [hb1, hb0]
              · exact hg1.block k hk (fun e' => e (Option.some.inj e'))
            have hbel1 : Below w.heap.size w w1 := ⟨hg1.os, hg1.tape, hg1.output, hg1.size, fun k hk => hk1 k hk⟩
            refine wpT_region ?_
            refine wpT_value rfl (run_move _ _ rfl) ?_
            have hx1 : (((a.put (some L.rr) .nilIface).put (some p) (.pointer (some ⟨b0, 0, none⟩))).put (some q) (.tuple #[])).eval (.tmp 1) = (Value.slice A0 nn0 c0) := by
              rw [eval_put_other _ _ _ _ n1.2.2.1, eval_put_other _ _ _ _ n1.2.1, eval_put_other _ _ _ _ n1.1, h1]
            rw [show (Act.eval _ (.tmp 1)) = (Value.slice A0 nn0 c0) from hx1]
            generalize ha3 : Act.put _ (some p2) (Value.slice A0 nn0 c0) = a3
            have hn3 : a3.tmps.size = fn.ntmps := by rw [← ha3]; simp only [put_size]; exact hn
            have hp2v : a3.eval (.tmp p2) = (Value.slice A0 nn0 c0) := by rw [← ha3]; exact eval_put_same _ _ _ (by simp only [put_size]; rw [hn]; exact hlt p2 (by simp))
            have hd3 : a3.defers = [] := by rw [← ha3]; simp only [put_defers]; exact hd0
            have h03 : a3.eval (.tmp 0) = .pointer (some ⟨b0, 0, none⟩) := by
              rw [← ha3]
              show Act.eval ((((a.put (some L.rr) .nilIface).put (some p) (.pointer (some ⟨b0, 0, none⟩))).put (some q) (.tuple #[])).put (some p2) (Value.slice A0 nn0 c0)) (.tmp 0) = _
              rw [eval_put_other _ _ _ _ n0.2.2.2.1, eval_put_other _ _ _ _ n0.2.2.1, eval_put_other _ _ _ _ n0.2.1, eval_put_other _ _ _ _ n0.1, h0]
            have h23 : a3.eval (.tmp 2) = .bool false := by
              rw [← ha3]
              show Act.eval ((((a.put (some L.rr) .nilIface).put (some p) (.pointer (some ⟨b0, 0, none⟩))).put (some q) (.tuple #[])).put (some p2) (Value.slice A0 nn0 c0)) (.tmp 2) = _
              rw [eval_put_other _ _ _ _ n2.2.2.2.1, eval_put_other _ _ _ _ n2.2.2.1, eval_put_other _ _ _ _ n2.2.1, eval_put_other _ _ _ _ n2.1, h2]
            clear ha3 hx1
            have hbld : (execOp a3.eval ⟨some b, .build tR #[(0, .tmp p2)], y4, s4, e4, none⟩).run P w1 = .ok (.value (.agg #[(Value.slice A0 nn0 c0), .bool false])) w1 := by
              have := run_build (P := P) w1 tR #[(0, (Value.slice A0 nn0 c0))] _ (by simpa using hbuild A0 nn0 c0)
              simp [execOp, hp2v, this]
            refine wpT_value rfl hbld ?_
            refine wpT_value rfl (run_alloc1 rfl hiR hzR) ?_
            have hbr : L.rd ≠ b := I.rb
            generalize ha4 : Act.put _ (some L.rd) (Value.pointer (some ⟨w1.heap.size, 0, none⟩)) = a4
            have hrd4 : a4.eval (.tmp L.rd) = .pointer (some ⟨w1.heap.size, 0, none⟩) := by rw [← ha4]; exact eval_put_same _ _ _ (by simp only [put_size]; rw [hn3]; exact hlt L.rd (by simp))
            have hb4 : a4.eval (.tmp b) = .agg #[(Value.slice A0 nn0 c0), .bool false] := by
              rw [← ha4, eval_put_other _ _ _ _ (Ne.symm hbr)]
              exact eval_put_same _ _ _ (by rw [hn3]; exact hlt b (by simp))
            have hn4 : a4.tmps.size = fn.ntmps := by rw [← ha4]; simp only [put_size]; exact hn3
            have hd4 : a4.defers = [] := by rw [← ha4]; simp only [put_defers]; exact hd3
            have h04 : a4.eval (.tmp 0) = .pointer (some ⟨b0, 0, none⟩) := by
              rw [← ha4, eval_put_other _ _ _ _ n0.2.2.2.2.2, eval_put_other _ _ _ _ n0.2.2.2.2.1, h03]
            have h24 : a4.eval (.tmp 2) = .bool false := by
              rw [← ha4, eval_put_other _ _ _ _ n2.2.2.2.2.2, eval_put_other _ _ _ _ n2.2.2.2.2.1, h23]
            clear ha4
            refine wpT_unit rfl (run_store_new (c := (Value.agg #[.slice none 0 0, .bool false]).cells) (c' := #[(Value.slice A0 nn0 c0), .bool false]) rfl hrd4 hb4 hiR hsR rfl (one2 hone rfl)) (wpT_ops_nil ?_)
            generalize hw2 : w1.alloc (.cells #[(Value.slice A0 nn0 c0), .bool false] tR) = w2
            have hbel2 : Below w1.heap.size w1 w2 := by rw [← hw2]; exact below_newblk _ _
            have hrow2 : w2.heap[w1.heap.size]? = some (.cells #[(Value.slice A0 nn0 c0), .bool false] tR (0, 0)) := by rw [← hw2]; exact heap_alloc_new _ _
            have hbel02 : Below w.heap.size w w2 := hbel1.trans (hbel2.mono hbel1.size)
            have hb02 := (hbel02.block b0 (lt_of_some hb0)).trans hb0
            have hrbn : b0 ≠ w1.heap.size := fun e => by have h1 := lt_of_some hb0; have h2 := hbel1.size; omega
            have hgl := lt_of_cell hg
            simp only at hgl
            have hsz1 := hbel1.size
            have hsz2 : w1.heap.size < w2.heap.size := lt_of_some hrow2
            obtain ⟨c1, c2, c3⟩ := cvs0_ok hcs
            have hS : StR w2 (fun b => b = b0 ∨ b = w1.heap.size) tR g E w1.heap.size b0 [] [] dv bt cs ⟨src, false⟩ := by
              refine ⟨.inl rfl, .inr rfl, hrbn, ?_, by simpa using hb02, c1.trans c2.1.symm, fun k v c hv hc => c3 w2 _ k v c hv hc, ⟨(Value.slice A0 nn0 c0), hrow2, ?_⟩, ?_, ?_⟩
              · rintro k (rfl | rfl)
                · exact lt_of_some hb02
                · exact hsz2
              · have hk : Keeps (fun b => b = b0) w w2 := ⟨hbel02.size, fun k hk _ => hbel02.block k hk⟩
                show SrcRep w2 _ (Value.slice A0 nn0 c0) src
                exact (hsrc.mono (Y := fun b => b = b0 ∨ b = w1.heap.size) (fun k hk h => h.elim (fun e => e) (fun e => by omega))).keep ⟨hbel02.size, fun k hk _ => hbel02.block k hk⟩
              · rintro (h | h)
                · exact hg0 h
                · omega
              · rw [← hg]
                exact World.cell?_of_block (hbel02.block g hgl)
            show wpT P _ (List.map TD.code L.rest ++ []) a4 w2
            rw [List.append_nil]
            refine execR_ok hT hR n true 0 dv 0 _ .none (L.rest.map .code) rs hrun _ (fun b => b = b0 ∨ b = w1.heap.size) [(b0, 0)] b0 [] [] dv bt cs ⟨src, false⟩ ⟨w1.heap.size, .nilIface, .slice none 0 0, 0, false, E, 0⟩ [] w2 a4 rfl rfl hS rfl rfl rfl (fun _ _ => rfl) ?_ hn4 hd4 (.inl rfl) trivial ?_ ?_
            · intro t x hx
              simp only [List.mem_cons, Prod.mk.injEq, List.not_mem_nil, or_false] at hx
              rcases hx with ⟨rfl, rfl⟩ | ⟨rfl, rfl⟩ | ⟨rfl, rfl⟩
              · exact hrd4
              · exact ⟨_, rfl, h04⟩
              · exact h24
            · intro a' w' vals' cs' s' ho hA hS' hvl htop
              refine post_ret (results_tmp hresults _ _ _) (hA.defers.trans hd4) ⟨?_, s'.bad, ?_, ?_, ?_⟩
              · refine ⟨hA.turn.os.trans hbel02.os, hA.turn.tape.trans hbel02.tape, hA.turn.output.trans hbel02.output, Nat.le_trans hbel02.size hA.turn.size, fun k hk hne => ?_⟩
                exact (hA.turn.block k (Nat.lt_of_lt_of_le hk hbel02.size) (by show k ≠ w1.heap.size; omega) (fun e => hne (by rw [e]))).trans (hbel02.block k hk)
              · have := htop rfl
                rw [← this]
                rfl
              · intro hb
                exact ⟨cs', s', vals', ho, hb, by simpa using hS'.row, hS'.len, hvl, fun k v c hv hc => (hS'.rep k v c hv hc).mono (fun _ _ h => .inl h)⟩
              · intro hb out s2 ho2
                have ho' : runR rs.k cs ⟨src, false⟩ = some (cs', s') := ho
                rw [ho'] at ho2
                cases ho2
                exact hb
            · intro a' w' ho hA hE
              refine post_ret (results_tmp hresults _ _ _) (hA.defers.trans hd4) ⟨?_, true, ?_, ?_, ?_⟩
              · refine ⟨hA.turn.os.trans hbel02.os, hA.turn.tape.trans hbel02.tape, hA.turn.output.trans hbel02.output, Nat.le_trans hbel02.size hA.turn.size, fun k hk hne => ?_⟩
                exact (hA.turn.block k (Nat.lt_of_lt_of_le hk hbel02.size) (by show k ≠ w1.heap.size; omega) (fun e => hne (by rw [e]))).trans (hbel02.block k hk)
              · show Ending.returned (a'.eval (.tmp L.rr)) = Ending.returned E
                rw [hE]
              · intro hb; cases hb
              · intro _ out s2 ho2
                have ho' : runR rs.k cs ⟨src, false⟩ = none := ho
                rw [ho'] at ho2
                cases ho2
          · cases hx
        · cases hx
      · cases hx
end Go.Proofs.Eng
