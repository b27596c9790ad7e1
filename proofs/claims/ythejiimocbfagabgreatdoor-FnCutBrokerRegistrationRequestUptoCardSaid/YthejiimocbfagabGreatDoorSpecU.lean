/-
  The reference: tags that nobody knows, by rising numbers, each once.
-/
import Derived.Test.YthejiimocbfagabGreatDoorSpec7
import Derived.Test.YthejiimocbfagabGreatDoorPX
import Derived.Test.YthejiimocbfagabGreatDoorPR
set_option linter.unusedVariables false
set_option linter.unusedSimpArgs false
namespace Go.Proofs.Eng
open Go Go.RowKit
attribute [local semireducible] wk wkD

/-! ## plain -/
abbrev URow := (Nat × List UInt8) × Value
def ucell (r : URow) : List Value := [.int .u32 (r.1.1 : Int), r.2]
def insR (t : URow) : List URow → List URow
  | [] => [t]
  | u :: r => if u.1.1 < t.1.1 then u :: insR t r else if u.1.1 = t.1.1 then u :: r else t :: u :: r
theorem insR_fst (t : URow) : ∀ rs : List URow, (insR t rs).map (·.1) = sIns t.1 (rs.map (·.1)) := by
  intro rs
  induction rs with
  | nil => rfl
  | cons u r ih =>
    simp only [insR, List.map_cons, sIns]
    split
    · simp [ih]
    · split <;> simp
/-- Where a tag goes. -/
theorem insR_at (t : URow) : ∀ (rs : List URow) (i : Nat), i ≤ rs.length → (∀ (j : Nat) (u : URow), j < i → rs[j]? = some u → u.1.1 < t.1.1) →
    (i = rs.length → insR t rs = rs.take i ++ t :: rs.drop i) ∧ (∀ u, rs[i]? = some u → ¬ u.1.1 < t.1.1 → insR t rs = if u.1.1 = t.1.1 then rs else rs.take i ++ t :: rs.drop i) := by
  intro rs
  induction rs with
  | nil =>
    intro i hi _
    obtain rfl : i = 0 := by simpa using hi
    exact ⟨fun _ => rfl, fun u h => by simp at h⟩
  | cons v r ih =>
    intro i hi h
    cases i with
    | zero =>
      refine ⟨fun h0 => by simp at h0, fun u hu hn => ?_⟩
      simp only [List.getElem?_cons_zero, Option.some.injEq] at hu
      subst hu
      simp only [insR]
      rw [if_neg hn]
      split <;> rfl
    | succ i =>
      have h0 := h 0 v (by omega) rfl
      obtain ⟨i1, i2⟩ := ih i (by simpa using hi) (fun j u hj hu => h (j + 1) u (by omega) (by simpa using hu))
      refine ⟨fun hl => ?_, fun u hu hn => ?_⟩
      · simp only [insR]
        rw [if_pos h0, i1 (by simpa using hl)]
        rfl
      · simp only [insR]
        rw [if_pos h0, i2 u (by simpa using hu) hn]
        split <;> rfl
theorem set_shift {α : Type} (Q : List α) (z v : α) (k : Nat) (hk : k ≤ Q.length) : ((Q ++ [z]).take (k + 1) ++ Q.drop k).set k v = Q.take k ++ v :: Q.drop k := by
  have h1 : (Q ++ [z]).take (k + 1) = Q.take k ++ [(Q ++ [z])[k]'(by simp; omega)] := by
    rw [List.take_succ_eq_append_getElem (by simp; omega), List.take_append_of_le_length hk]
  rw [h1, List.append_assoc, List.set_append_right _ _ (by simp; omega)]
  simp [Nat.min_eq_left hk]
theorem shift_next {α : Type} (Q : List α) (z : α) (k : Nat) (hk : k + 1 ≤ Q.length) : Q.take (k + 1) ++ Q[k] :: Q.drop (k + 1) = (Q ++ [z]).take (k + 1) ++ Q.drop k := by
  rw [List.take_append_of_le_length hk, List.drop_eq_getElem_cons (l := Q) (i := k) (by omega)]
/-- A piece of code, and what it comes to. -/
theorem wk_cut {P : Program} {Q : Exit → Act → World → Prop} {nT : Nat} {σ : Sv} {k : List TD} {w : World} {ι : Type} (S : ι → Sv) (W : ι → World → Prop) {c : Code} (h : wk P (JoinQ Q nT S W) nT σ [.code c] w) (hk : ∀ i w', W i w' → wk P Q nT (S i) k w') : wk P Q nT σ (.code c :: k) w := by
  intro a ha
  intro B kk cs
  obtain ⟨e, a', w', hq, harr⟩ := wpT_one (h a ha) B kk cs
  refine ⟨e, a', w', ?_, harr⟩
  cases e with
  | normal => obtain ⟨i, h1, h2⟩ := hq; exact hk i w' h2 a' h1
  | exit _ => exact hq
  | goto _ => exact hq
  | ret => exact hq
  | panic _ => exact hq
  | outgrown => exact hq
theorem pqj {Q : Exit → Act → World → Prop} {nT : Nat} {ι : Type} {S : ι → Sv} {W : ι → World → Prop} (h : PQ Q) : PQ (JoinQ Q nT S W) := h
theorem wk_appS {P : Program} {Q : Exit → Act → World → Prop} {nT : Nat} {σ : Sv} {k : List TD} {w : World} {all : Array Oper} {l : List Oper} {ty : TypeId} {ps : String} {af : Array Edge} {d : Nat} {x y : Operand} {t t' : TypeId} {u v : Value} {R : Value → World → Prop} (hx : evs σ x = some u) (hy : evs σ y = some v)
    (hr : ∀ (ρ : Operand → Value) (o : Oper), o.op = .call ⟨.builtin .append, #[x, y], #[t, t']⟩ → ρ x = u → ρ y = v → ∃ d' w', (execOp ρ o).run P w = .ok (.value d') w' ∧ R d' w')
    (hd : Nat.blt d nT = true) (h : ∀ d' w', R d' w' → wk P Q nT ((d, d') :: σ) (.ops all l :: k) w') :
    wk P Q nT σ (.ops all (⟨some d, .call ⟨.builtin .append, #[x, y], #[t, t']⟩, ty, ps, af, none⟩ :: l) :: k) w := by
  intro a ha
  obtain ⟨d', w', h1, h2⟩ := hr a.eval ⟨some d, .call ⟨.builtin .append, #[x, y], #[t, t']⟩, ty, ps, af, none⟩ rfl (ha.ev hx) (ha.ev hy)
  exact wpT_value rfl h1 (h d' w' h2 _ (ha.put hd d'))
/-! ## a struct laid into a row of one's own -/
theorem rows_split {m : Nat} {rows : List (List Value)} (hr : ∀ r ∈ rows, r.length = m) {k : Nat} (hk : k < rows.length) (sp : List Value) :
    rows.flatten ++ sp = (rows.take k).flatten ++ (rows[k] ++ ((rows.drop (k + 1)).flatten ++ sp)) ∧ (rows.take k).flatten.length = k * m ∧ rows[k].length = m := by
  refine ⟨?_, ?_, hr _ (List.getElem_mem hk)⟩
  · have h1 : rows = rows.take k ++ rows[k] :: rows.drop (k + 1) := by rw [← List.drop_eq_getElem_cons hk, List.take_append_drop]
    have h2 : rows.flatten = (rows.take k).flatten ++ (rows[k] ++ (rows.drop (k + 1)).flatten) := by
      have h3 := congrArg List.flatten h1
      rw [List.flatten_append, List.flatten_cons] at h3
      exact h3
    rw [h2]
    simp
  · rw [flat_len5 _ (fun r h => hr r (List.mem_of_mem_take h)), List.length_take, Nat.min_eq_left (by omega)]
theorem rows_set {m : Nat} {rows : List (List Value)} (hr : ∀ r ∈ rows, r.length = m) {k : Nat} (hk : k < rows.length) (v sp : List Value) :
    (rows.set k v).flatten ++ sp = (rows.take k).flatten ++ (v ++ ((rows.drop (k + 1)).flatten ++ sp)) := by
  rw [List.set_eq_take_append_cons_drop, if_pos hk]
  simp
theorem wk_storeAt {P : Program} {Q : Exit → Act → World → Prop} {nT : Nat} {σ : Sv} {k : List TD} {w : World} {all : Array Oper} {l : List Oper} {ty : TypeId} {ps : String} {af : Array Edge} {x y : Operand} {t u : TypeId} {i : TypeInfo} {g q m : Nat} {rows : List (List Value)} {v sp : List Value}
    (hx : evs σ x = some (.pointer (some ⟨g, 0 + q * m, none⟩))) (hy : evs σ y = some (.agg v.toArray)) (hb : w.heap[g]? = some (.cells (rows.flatten ++ sp).toArray u (0, 0))) (hr : ∀ r ∈ rows, r.length = m) (hq : q < rows.length) (hv : v.length = m) (hi : P.info? t = some i) (hs : i.size = m) (h1 : ∀ c ∈ v, c.oneCell' = true)
    (h : wk P Q nT σ (.ops all l :: k) (w.setRow g ((rows.set q v).flatten ++ sp).toArray)) : wk P Q nT σ (.ops all (⟨none, .store t x y, ty, ps, af, none⟩ :: l) :: k) w := by
  obtain ⟨e1, e2, e3⟩ := rows_split hr hq sp
  rw [e1] at hb
  rw [rows_set hr hq] at h
  refine wk_unit (fun a ha => ?_) h
  refine run_storeMid rfl (A := (rows.take q).flatten) ?_ (ha.ev hy) rfl hb (by rw [e3, hv]) hi (by rw [hs, hv]) h1
  rw [e2]
  have := ha.ev hx
  rwa [Nat.zero_add] at this
theorem row_cells {w : World} {g q m : Nat} {rows : List (List Value)} {sp : List Value} {u : TypeId} (hb : w.heap[g]? = some (.cells (rows.flatten ++ sp).toArray u (0, 0))) (hr : ∀ r ∈ rows, r.length = m) {r : List Value} (hq : rows[q]? = some r) :
    ∀ j v, r[j]? = some v → w.cell? ((⟨g, 0 + q * m, none⟩ : Addr).add j) = some v := by
  intro j v hj
  have hlt := (List.getElem?_eq_some_iff.1 hq).1
  obtain ⟨e1, e2, e3⟩ := rows_split hr hlt sp
  have hqe : rows[q] = r := (List.getElem?_eq_some_iff.1 hq).2
  rw [hqe] at e1 e3
  have hjl := (List.getElem?_eq_some_iff.1 hj).1
  rw [add_addr, Nat.zero_add]
  refine cell_blk hb ?_
  show (rows.flatten ++ sp)[q * m + j]? = some v
  rw [e1, List.getElem?_append_right (by omega), e2, Nat.add_sub_cancel_left, List.getElem?_append_left hjl]
  exact hj
end Go.Proofs.Eng
namespace Go.Proofs.YthejiimocbfagabGreatDoor
open Go Go.RowKit Go.Proofs.Eng
set_option maxRecDepth 20000
set_option maxHeartbeats 8000000

theorem urows {rs : List URow} : (∀ r ∈ rs.map ucell, r.length = 2) := by
  intro r hr
  obtain ⟨x, _, rfl⟩ := List.mem_map.1 hr
  rfl
/-- What is known of the tags that are laid: the row is the call's own, and each says its octets. -/
structure UOut (w w' : World) (X : Nat → Prop) (d : Value) (rs : List URow) : Prop where
  own : w'.ownsRow w.heap.size 55 2 d rs.length (rs.map ucell).flatten
  rep : ∀ r ∈ rs, BytesRep0 w X r.2 r.1.2
  key : ∀ r ∈ rs, r.1.1 < 4294967296
theorem UOut.form {w w' : World} {X : Nat → Prop} {d : Value} {rs : List URow} (h : UOut w w' X d rs) : ∃ A c, d = .slice A rs.length c := by
  rcases h.own.2 with ⟨h1, h2⟩ | ⟨g, cap, cur, h1, _⟩
  · exact ⟨none, 0, by rw [h1, h2]⟩
  · exact ⟨_, _, h1⟩
theorem UOut.below {w w' w'' : World} {X : Nat → Prop} {d : Value} {rs : List URow} (h : UOut w w' X d rs) (hb : Below w'.heap.size w' w'') : UOut w w'' X d rs :=
  ⟨h.own.kept (row := none) ⟨hb.os, hb.tape, hb.output, hb.size, fun k hk _ => hb.block k hk⟩ (by cases d.ownBlock <;> simp), h.rep, h.key⟩
/-- The row's block: the tags' cells, and what is spare. -/
theorem UOut.block {w w' : World} {X : Nat → Prop} {d : Value} {rs : List URow} (h : UOut w w' X d rs) (hne : rs ≠ []) : ∃ g cap sp, d = .slice (some ⟨g, 0, none⟩) rs.length cap ∧ w.heap.size ≤ g ∧ rs.length ≤ cap ∧ cap ≤ maxLen ∧ w'.heap[g]? = some (.cells ((rs.map ucell).flatten ++ sp).toArray 55 (0, 0)) ∧ ((rs.map ucell).flatten ++ sp).length = cap * 2 := by
  have hl := h.own.1
  rcases h.own.2 with ⟨_, h2⟩ | ⟨g, cap, cur, h1, h2, h3, h4, h5, h6, h7⟩
  · exact absurd (List.length_eq_zero_iff.1 h2) hne
  · have e : (rs.map ucell).flatten ++ cur.toList.drop (rs.length * 2) = cur.toList := by
      conv => lhs; rw [← h7]
      exact List.take_append_drop _ _
    refine ⟨g, cap, cur.toList.drop (rs.length * 2), h1, h2, h4, h5, ?_, ?_⟩
    · rw [e]; exact h3
    · rw [e]; simpa using h6
/-- The row's block turned: other tags, as many or one less. -/
theorem UOut.of_block {w w' : World} {X : Nat → Prop} {rs : List URow} {g cap : Nat} {sp : List Value} (hg : w.heap.size ≤ g) (hc : rs.length ≤ cap) (hm : cap ≤ maxLen) (hb : w'.heap[g]? = some (.cells ((rs.map ucell).flatten ++ sp).toArray 55 (0, 0))) (hl : ((rs.map ucell).flatten ++ sp).length = cap * 2)
    (hr : ∀ r ∈ rs, BytesRep0 w X r.2 r.1.2) (hk : ∀ r ∈ rs, r.1.1 < 4294967296) : UOut w w' X (.slice (some ⟨g, 0, none⟩) rs.length cap) rs := by
  have h0 : (rs.map ucell).flatten.length = rs.length * 2 := by rw [flat_len5 _ urows, List.length_map]
  refine ⟨⟨h0, .inr ⟨g, cap, _, rfl, hg, hb, hc, hm, by simpa using hl, ?_⟩⟩, hr, hk⟩
  show ((rs.map ucell).flatten ++ sp).take (rs.length * 2) = _
  rw [List.take_append_of_le_length (by omega), List.take_of_length_le (by omega)]
end Go.Proofs.YthejiimocbfagabGreatDoor
