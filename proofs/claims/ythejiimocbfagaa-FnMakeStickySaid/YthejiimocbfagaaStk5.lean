/-
  impl.MakeSticky.
-/
import Derived.Test.YthejiimocbfagaaStk4
import Derived.Test.YthejiimocbfagaaEngY
set_option linter.unusedVariables false
set_option linter.unusedSimpArgs false
namespace Go.Proofs.Eng
open Go Go.RowKit
attribute [local semireducible] wk wkD
section
variable {P : Program} {Q : Exit → Act → World → Prop} {nT : Nat} {σ : Sv} {k : List TD} {w : World} {all : List Oper} {S : World → Prop} {ty : TypeId} {ps : String} {af : Array Edge} {d : Nat} {x y z : Operand} {t t' : TypeId} {g : Option (Nat × Bool)}
theorem wgo_append {n i : Nat} {listed : Array Bool} {u v : Value} {R : Value → World → Prop} (hi : all[i]? = some ⟨some d, .call ⟨.builtin .append, #[x, y], #[t, t']⟩, ty, ps, af, g⟩) (hg : guardIs σ all g = some true) (hx : evs σ x = some u) (hy : evs σ y = some v)
    (hr : ∀ (ρ : Operand → Value) (o : Oper), o.op = .call ⟨.builtin .append, #[x, y], #[t, t']⟩ → ρ x = u → ρ y = v → ∃ d' w', (execOp ρ o).run P w = .ok (.value d') w' ∧ S w' ∧ R d' w') (hd : Nat.blt d nT = true)
    (h : ∀ d' w', R d' w' → wkG P Q nT all S ((d, d') :: σ) k n (listed.setIfInBounds i true) w') : wgO P Q nT all S σ k n listed i w := by
  intro hq hS a ha
  unfold wpOp
  have h1 : all.toArray[i]? = some (⟨some d, .call ⟨.builtin .append, #[x, y], #[t, t']⟩, ty, ps, af, g⟩ : Oper) := by simpa using hi
  simp only [h1]
  rw [if_pos (guardIs_ok (o := ⟨some d, .call ⟨.builtin .append, #[x, y], #[t, t']⟩, ty, ps, af, g⟩) ha hg)]
  refine .inl ?_
  obtain ⟨d', w', h2, h3, h4⟩ := hr a.eval ⟨some d, .call ⟨.builtin .append, #[x, y], #[t, t']⟩, ty, ps, af, g⟩ rfl (ha.ev hx) (ha.ev hy)
  unfold Oper.wp
  rw [h2]
  exact ⟨h3, h d' w' h4 hq h3 _ (ha.put hd d')⟩
theorem wgo_unit {n i : Nat} {listed : Array Bool} {op : Op} {w' : World} (hi : all[i]? = some ⟨none, op, ty, ps, af, g⟩) (hg : guardIs σ all g = some true) (hr : ∀ a, Knows nT σ a → (execOp a.eval ⟨none, op, ty, ps, af, g⟩).run P w = .ok .skip w') (hS' : S w')
    (h : wkG P Q nT all S σ k n (listed.setIfInBounds i true) w') : wgO P Q nT all S σ k n listed i w := by
  intro hq hS a ha
  unfold wpOp
  have h1 : all.toArray[i]? = some (⟨none, op, ty, ps, af, g⟩ : Oper) := by simpa using hi
  simp only [h1]
  rw [if_pos (guardIs_ok (o := ⟨none, op, ty, ps, af, g⟩) ha hg)]
  refine .inl ?_
  unfold Oper.wp
  rw [hr a ha]
  exact ⟨hS', h hq hS' _ ha⟩
theorem run_store1 {b o : Nat} {cur : Array Value} {u : TypeId} {i : TypeInfo} {v : Value} {ρ : Operand → Value} {op : Oper} (hop : op.op = .store t x y) (hx : ρ x = .pointer (some ⟨b, o, none⟩)) (hy : ρ y = v) (hb : w.heap[b]? = some (.cells cur u (0, 0))) (hi : P.info? t = some i) (hn : i.size = 1) (h1 : v.oneCell' = true) (hc : v.cells = #[v]) (ho : o < cur.size) :
    (execOp ρ op).run P w = .ok .skip (w.setRow b (cur.setIfInBounds o v)) := by
  have hcell : w.cell? ⟨b, o, none⟩ = some cur[o] := by simp [World.cell?, hb, ho]
  have hfro : w.frozen? ⟨b, o, none⟩ = false := by simp [World.frozen?, hb]
  have hst : (store (⟨b, o, none⟩ : Addr) v).run P w = .ok () (w.setRow b (cur.setIfInBounds o v)) := by
    rw [run_store P w _ v _ h1, hcell]
    simp [hfro, setCell_eq_setRow w b o cur u (0, 0) v hb]
  have hst2 : (storeVar t ⟨b, o, none⟩ v).run P w = .ok () (w.setRow b (cur.setIfInBounds o v)) := by
    have ha0 : (⟨b, o, none⟩ : Addr).add 0 = ⟨b, o, none⟩ := by rw [add_addr]; rfl
    simp [storeVar, sizeOf, typeInfo, hi, hn, hc, storeCells, ha0, hst]
  simp [execOp, hop, hx, hy, Instr.storeAt, Instr.sureAddr, hst2]
theorem run_bS {e : TypeId} {n : Nat} {parts : List (Nat × Operand)} {vs : List (Nat × Value)} {cells : Array Value} {ie : TypeInfo} {zv : Value} {a : Act} {op : Oper} (ha : Knows nT σ a) (hop : op.op = .buildSlice t n parts.toArray) (hv : partsB σ parts = some vs) (hu : P.underlying t = some (.slice e)) (hie : P.info? e = some ie) (hz : ie.zero = some zv)
    (hsm : Nat.ble (n * ie.size) 16777216 = true) (hpos : Nat.blt 0 (n * ie.size) = true) (hf : Instr.fill (fun i => some (i * ie.size, ie.size)) ((Array.range (n * ie.size)).map (zv.cells[· % zv.cells.size]!)) vs = some cells) :
    (execOp a.eval op).run P w = .ok (.value (.slice (some ⟨w.heap.size, 0, none⟩) n n)) (w.alloc (.cells cells e)) := by
  have h1 := partsB_ok ha _ _ hv
  have hsm := Nat.le_of_ble_eq_true hsm
  have hpos : 0 < n * ie.size := by simpa [Nat.blt_eq] using hpos
  have h2 := run_buildSlice (P := P) w t e n vs.toArray cells ie zv hu hie hz (by omega) (by omega) (by simpa using hf)
  have h3 : (parts.toArray.map fun (i, x) => (i, a.eval x)) = vs.toArray := by rw [List.map_toArray, h1]
  unfold execOp
  rw [hop]
  simp only [h3, Sem.run_bind, h2, Result.andThen_ok]
  rfl
theorem row_ne {w : World} {base b m n : Nat} {e t : TypeId} {d : Value} {xs : List Value} {cur : Array Value} {z : Nat × Nat} (h : w.ownsRow base e m d n xs) (hb : w.heap[b]? = some (.cells cur t z)) (hne : t ≠ e) : d.ownBlock ≠ some b := by
  intro e1
  rcases h.2 with ⟨rfl, _⟩ | ⟨g', cap, cur', rfl, _, hh, _⟩
  · simp [Value.ownBlock] at e1
  · simp only [Value.ownBlock, Option.some.injEq] at e1
    subst e1
    rw [hh] at hb
    simp only [Option.some.injEq, Obj.cells.injEq] at hb
    exact hne hb.2.1.symm
theorem row_below {w w' : World} {base m n : Nat} {e : TypeId} {d : Value} {xs : List Value} (h : w.ownsRow base e m d n xs) (hb : Below w.heap.size w w') : w'.ownsRow base e m d n xs :=
  World.ownsRow.kept h (row := none) ⟨hb.os, hb.tape, hb.output, hb.size, fun k hk _ => hb.block k hk⟩ (by cases d.ownBlock <;> simp)
theorem row_set {w : World} {base b m n : Nat} {e t : TypeId} {d : Value} {xs : List Value} {cur cs : Array Value} {z : Nat × Nat} (h : w.ownsRow base e m d n xs) (hb : w.heap[b]? = some (.cells cur t z)) (hne : t ≠ e) : (w.setRow b cs).ownsRow base e m d n xs :=
  World.ownsRow.kept h (row := some b) ⟨rfl, rfl, rfl, by simp [World.setRow], fun k _ hk => setRow_other w b k cs (fun e => hk (by rw [e]))⟩ (.inr (row_ne h hb hne))
theorem row_grown {w w' : World} {base base' m n m' n' : Nat} {e e' : TypeId} {d d' : Value} {xs ys : List Value} (h : w.ownsRow base e m d n xs) (h' : w.ownsRow base' e' m' d' n' ys) (hg : w.grownBy w' d'.ownBlock) (hne : e ≠ e') : w'.ownsRow base e m d n xs := by
  refine World.ownsRow.kept h hg ?_
  rcases h.2 with ⟨rfl, _⟩ | ⟨q, cap, cur, rfl, _, hh, _⟩
  · exact .inl rfl
  · exact .inr fun e1 => row_ne h' hh hne e1.symm
end
end Go.Proofs.Eng
namespace Go.Proofs.Ythejiimocbfagaa
open Go Go.RowKit Go.Proofs.Eng
set_option maxRecDepth 20000
set_option maxHeartbeats 4000000
theorem row_mono {w : World} {base base' m n : Nat} {e : TypeId} {d : Value} {xs : List Value} (h : w.ownsRow base e m d n xs) (hb : base' ≤ base) : w.ownsRow base' e m d n xs :=
  ⟨h.1, h.2.imp id fun ⟨g, cap, cur, h1, h2, h3⟩ => ⟨g, cap, cur, h1, Nat.le_trans hb h2, h3⟩⟩
theorem below_set {B : Nat} {a w : World} (h : Below B a w) {b : Nat} (hb : B ≤ b) (cs : Array Value) : Below B a (w.setRow b cs) :=
  h.trans ⟨rfl, rfl, rfl, by simp [World.setRow], fun k hk => setRow_other w b k cs (by omega)⟩
theorem mks_any (w : World) (X : Nat → Prop) (dv v : Value) (dl : List UInt8) (l : List (ByteArray × List Int)) (g : Int) (hd : BytesRep0 w X dv dl) (hv : ORep w X v l) (hdl : dl.length ≤ 4294967296) (hl : l.length ≤ 2000) (hp : ∀ r ∈ l, r.1.size ≤ 32767 ∧ r.2.length ≤ 2000) :
    Calls Try.prog 8 #[dv, .agg #[v, .int .i32 g]] w fun e w' => ∃ d, e = .returned d ∧ Own w' w.heap.size 5 d (dl ++ stkB l g) ∧ Below w.heap.size w w' := by
  obtain ⟨vals, hL, hvals⟩ := hv
  obtain ⟨A, c, rfl, _⟩ := id hL
  have h1 := heap_alloc_new w (.cells #[.slice A l.length c, .int .i32 g] 25)
  have hb1 := below1 w (.cells #[.slice A l.length c, .int .i32 g] 25)
  refine calls_wk (args := [dv, .agg #[.slice A l.length c, .int .i32 g]]) Try.func8 rfl rfl ?_
  refine wk_seq ?_
  refine wk_reg (id := 0) ?_
  refine wk_box rfl rfl ?_
  refine wk_assign rfl rfl ?_
  refine wk_nil ?_
  refine wk_seq ?_
  refine wk_reg (id := 1) ?_
  refine wk_field (f := 1) (i := Try.t21) rfl Try.underlying25 rfl (by kernel_rfl) (by decide) rfl ?_
  refine wk_load rfl Try.underlying21 rfl (by exact cell_new rfl) rfl ?_
  first
    | refine wk_load (v := .int .i32 g) rfl Try.underlying21 rfl (cell_blk h1 rfl) rfl ?_
    | skip
  refine wk_build (vs := [(1, .int .i32 g)]) (cells := #[.slice none 0 0, .int .i32 g]) rfl (by kernel_rfl) rfl ?_
  refine wk_box rfl rfl ?_
  refine wk_assign rfl rfl ?_
  refine wk_nil ?_
  refine wk_seq ?_
  refine wk_seq ?_
  refine wk_reg (id := 2) ?_
  refine wk_field (f := 0) (i := Try.t23) rfl Try.underlying25 rfl (by kernel_rfl) (by decide) rfl ?_
  refine wk_load rfl Try.underlying23 rfl (by exact cell_new2 rfl) rfl ?_
  refine wk_slen rfl Try.underlying23 rfl ?_
  refine wk_move rfl rfl ?_
  refine wk_nil ?_
  have h2 := heap_alloc_new (w.alloc (.cells #[.slice A l.length c, .int .i32 g] 25)) (.cells #[.slice none 0 0, .int .i32 g] 47)
  have hb2 := below1 (w.alloc (.cells #[.slice A l.length c, .int .i32 g] 25)) (.cells #[.slice none 0 0, .int .i32 g] 47)
  have h12 := (hb2.block _ (lt_of_some h1)).trans h1
  first
    | refine wk_load (v := .slice A l.length c) rfl Try.underlying23 rfl (cell_blk h12 rfl) rfl ?_
    | skip
  skip
  have hb02 : Below w.heap.size w ((w.alloc (.cells #[.slice A l.length c, .int .i32 g] 25)).alloc (.cells #[.slice none 0 0, .int .i32 g] 47)) := hb1.trans (hb2.mono hb1.size)
  have hbs := hb1.size
  refine wk_loop (fun i : Nat × Value × List Value => [(0, dv), (5, .pointer (some ⟨(w.alloc (.cells #[.slice A l.length c, .int .i32 g] 25)).heap.size, 0, none⟩)), (13, .slice A l.length c), (14, .int .i64 (l.length : Int)), (15, .int .i64 (i.1 : Int))])
    (fun i w' => i.1 ≤ l.length ∧ w'.heap[(w.alloc (.cells #[.slice A l.length c, .int .i32 g] 25)).heap.size]? = some (.cells #[i.2.1, .int .i32 g] 47 (0, 0)) ∧ w'.ownsRow w.heap.size 49 2 i.2.1 i.1 (List.zipWith rowOf (l.take i.1) i.2.2).flatten ∧ i.2.2.length = i.1 ∧
      (∀ (j : Nat) (u : Value) (r : ByteArray × List Int), i.2.2[j]? = some u → l[j]? = some r → IOwn w' w.heap.size u r.2) ∧ Below w.heap.size w w') (fun i => l.length - i.1) (0, .slice none 0 0, []) rfl ⟨Nat.zero_le _, h2, World.ownsRow_nil _ _ _ _, rfl, (fun j u r h => by simp at h), hb02⟩ ?_
  rintro ⟨i, di, vs⟩ w3 ⟨hi, hblk3, hown3, hvl, hio, hb3⟩
  generalize hb0 : (w.alloc (.cells #[.slice A l.length c, .int .i32 g] 25)).heap.size = b0 at hblk3 hbs ⊢
  simp only at hi hblk3 hown3 hvl hio
  by_cases hlt : i < l.length
  · have c2 : cmp .lss (i : Int) (l.length : Int) = some true := by simp [cmp, hlt]
    have hnx : IntKind.i64.wrap ((i : Int) + 1) = ((i + 1 : Nat) : Int) := i64w ((i : Int) + 1) (by omega) (by omega)
    obtain ⟨_, b, o, rfl, hcell⟩ := ORep.at hL hb3 hlt
    have hvr := (hvals i _ (List.getElem?_eq_getElem hlt)).1
    have hpl := (hp l[i] (List.getElem_mem hlt)).2
    obtain ⟨A2, c2', hvi, _⟩ := id hvr
    rw [hvi] at hcell hvr
    refine wk_seq ?_
    refine wk_reg (id := 3) ?_
    refine wk_cmp rfl rfl (by with_reducible assumption) rfl ?_
    refine wk_nil ?_
    refine wk_seq ?_
    refine wk_condT rfl ?_
    refine wk_skip ?_
    refine wk_seq ?_
    refine wk_block ?_
    refine wk_seq ?_
    refine wk_reg (id := 4) ?_
    refine wk_idx (i := Try.t42) rfl rfl Try.underlying23 (by kernel_rfl) hlt rfl ?_
    refine wk_loadA (i := Try.t42) rfl Try.underlying42 rfl (by kernel_rfl) (vs := [.string l[i].1, .slice A2 l[i].2.length c2']) rfl hcell rfl ?_
    refine wk_alloc (t := 42) (i := Try.t42) (by kernel_rfl) rfl rfl ?_
    refine wk_storeNew (i := Try.t42) (c' := #[.string l[i].1, .slice A2 l[i].2.length c2']) rfl rfl (by kernel_rfl) rfl rfl (one2 rfl rfl) ?_
    have hG := heap_alloc_new w3 (.cells #[.string l[i].1, .slice A2 l[i].2.length c2'] 42)
    have hbn := below1 w3 (.cells #[.string l[i].1, .slice A2 l[i].2.length c2'] 42)
    generalize hw4 : w3.alloc (.cells #[.string l[i].1, .slice A2 l[i].2.length c2'] 42) = w4 at hG hbn ⊢
    have hblk4 := (hbn.block _ (lt_of_some hblk3)).trans hblk3
    refine wk_nil ?_
    refine wk_drawG (n := 16) (fun w' => w'.heap[w3.heap.size]? = some (.cells #[.string l[i].1, .slice A2 l[i].2.length c2'] 42 (0, 0))) mixed (pqb (pql pq0)) (by kernel_rfl) (fun w5 h5 _ => by rw [h5]; exact hG) ?_
    intro w5 h5 hb5
    have hG5 : w5.heap[w3.heap.size]? = some (.cells #[.string l[i].1, .slice A2 l[i].2.length c2'] 42 (0, 0)) := by rw [h5]; exact hG
    have hblk5 : w5.heap[b0]? = some (.cells #[di, .int .i32 g] 47 (0, 0)) := by rw [h5]; exact hblk4
    have hb35 := hbn.trans (hb5.mono hbn.size)
    have hb05 := hb3.trans (hb35.mono hb3.size)
    have hvr5 : PRep w5 X (.slice A2 l[i].2.length c2') l[i].2 := hvr.keep (keeps_below hb05 (Nat.le_refl _))
    refine wg_take 0 rfl (by kernel_rfl) (by kernel_rfl) (by kernel_rfl) rfl (v := .pointer (some ⟨b0, 0, none⟩)) (fun _ ha _ _ => by rw [run_move _ _ rfl, ha.ev rfl]) rfl ?_
    refine wg_take 1 rfl (by kernel_rfl) (by kernel_rfl) (by kernel_rfl) rfl (v := .pointer (some ⟨b0, 0, none⟩)) (fun _ ha _ _ => by rw [run_move _ _ rfl, ha.ev rfl]) rfl ?_
    refine wg_take 2 rfl (by kernel_rfl) (by kernel_rfl) (by kernel_rfl) rfl (v := .pointer (some ⟨b0, 0, none⟩)) (fun _ ha _ _ => run_nilCheck _ _ rfl (ha.ev rfl)) rfl ?_
    refine wg_take 3 rfl (by kernel_rfl) (by kernel_rfl) (by kernel_rfl) rfl (v := .pointer (some ⟨b0, 0 + 0, none⟩)) (fun _ ha _ _ => by rw [run_fieldAddr _ _ rfl (ha.ev rfl) Try.underlying47 rfl (show Try.prog.info? 45 = some Try.t45 by kernel_rfl) (by decide), add_addr]; rfl) rfl ?_
    refine wg_take 5 rfl (by kernel_rfl) (by kernel_rfl) (by kernel_rfl) rfl (v := .pointer (some ⟨w3.heap.size, 0 + 0, none⟩)) (fun _ ha _ _ => by rw [run_fieldAddr _ _ rfl (ha.ev rfl) Try.underlying42 rfl (show Try.prog.info? 9 = some Try.t9 by kernel_rfl) (by decide), add_addr]; rfl) rfl ?_
    refine wg_take 6 rfl (by kernel_rfl) (by kernel_rfl) (by kernel_rfl) rfl (v := .string l[i].1) (fun _ ha _ hS => run_load1 _ _ rfl (ha.ev rfl) Try.underlying9 rfl (cell_blk hS rfl)) rfl ?_
    refine wg_take 7 rfl (by kernel_rfl) (by kernel_rfl) (by kernel_rfl) rfl (v := .pointer (some ⟨w3.heap.size, 0 + 1, none⟩)) (fun _ ha _ _ => by rw [run_fieldAddr _ _ rfl (ha.ev rfl) Try.underlying42 rfl (show Try.prog.info? 40 = some Try.t40 by kernel_rfl) (by decide), add_addr]; rfl) rfl ?_
    refine wg_take 8 rfl (by kernel_rfl) (by kernel_rfl) (by kernel_rfl) rfl (v := .slice A2 l[i].2.length c2') (fun _ ha _ hS => run_load1 _ _ rfl (ha.ev rfl) Try.underlying40 rfl (cell_blk hS rfl)) rfl ?_
    refine wg_two (i := 4) (j := 9) (by kernel_rfl) ?_ ?_
    · refine wgo_val (v := di) (w' := w5) rfl rfl (fun _ ha => run_load1 _ _ rfl (ha.ev rfl) Try.underlying45 rfl (cell_blk hblk5 rfl)) rfl hG5 ?_
      refine wg_one (i := 9) (by kernel_rfl) ?_
      refine wgo_append (R := fun d' w' => IOwn w' w5.heap.size d' l[i].2 ∧ Below w5.heap.size w5 w') rfl rfl rfl rfl (fun ρ oo hop hx hy => by
        obtain ⟨d', w', a1, a2, a3⟩ := app_ints hvr5 (by omega) ρ oo hop hx hy
        exact ⟨d', w', a1, (a3.block _ (lt_of_some hG5)).trans hG5, a2, a3⟩) rfl ?_
      rintro d9 w9 ⟨ho9, hb9⟩
      have hG9 := (hb9.block _ (lt_of_some hG5)).trans hG5
      have hblk9 := (hb9.block _ (lt_of_some hblk5)).trans hblk5
      have hb39 := hb35.trans (hb9.mono hb35.size)
      have hb09 := hb3.trans (hb39.mono hb3.size)
      have hown9 := row_below hown3 hb39
      have ho9' : IOwn w9 w.heap.size d9 l[i].2 := row_mono ho9 hb05.size
      obtain ⟨A9, c9, rfl⟩ : ∃ A9 c9, d9 = .slice A9 l[i].2.length c9 := by
        obtain ⟨A9, c9, h9, _⟩ := PRep.of_own (X := fun _ => False) ho9 (fun _ _ _ h => h)
        exact ⟨A9, c9, h9⟩
      refine wg_take 10 rfl (by kernel_rfl) (by kernel_rfl) (by kernel_rfl) rfl (v := .agg #[.string l[i].1, .slice A9 l[i].2.length c9]) (fun _ ha w' _ => by
        have q2 := run_build (P := Try.prog) w' 49 #[(0, .string l[i].1), (1, .slice A9 l[i].2.length c9)] #[.string l[i].1, .slice A9 l[i].2.length c9] (by kernel_rfl)
        simp only [execOp, List.map_toArray, List.map_cons, List.map_nil, ha.ev (show evs _ (.tmp 25) = some (.string l[i].1) from rfl), ha.ev (show evs _ (.tmp 28) = some (.slice A9 l[i].2.length c9) from rfl)]
        simp [q2]) rfl ?_
      have hbA := below1 w9 (.cells #[.string l[i].1, .slice A9 l[i].2.length c9] 49)
      have hownA := row_below hown9 hbA
      have hGA := (hbA.block _ (lt_of_some hG9)).trans hG9
      have hblkA := (hbA.block _ (lt_of_some hblk9)).trans hblk9
      refine wg_one (i := 11) (by kernel_rfl) ?_
      refine wgo_val (v := .slice (some ⟨w9.heap.size, 0, none⟩) 1 1) (w' := w9.alloc (.cells #[.string l[i].1, .slice A9 l[i].2.length c9] 49)) rfl rfl
        (fun _ ha => run_bS (e := 49) (ie := Try.t49) (zv := .agg #[.string ⟨#[]⟩, .slice none 0 0]) (vs := [(0, .agg #[.string l[i].1, .slice A9 l[i].2.length c9])]) ha rfl rfl Try.underlying45 (by kernel_rfl) rfl rfl rfl (by kernel_rfl)) rfl hGA ?_
      refine wg_one (i := 12) (by kernel_rfl) ?_
      refine wgo_append (R := fun d' w' => w'.ownsRow w.heap.size 49 2 d' (i + 1) ((List.zipWith rowOf (l.take i) vs).flatten ++ ([Value.string l[i].1, Value.slice A9 l[i].2.length c9] : List Value)) ∧ (w9.alloc (.cells #[.string l[i].1, .slice A9 l[i].2.length c9] 49)).grownBy w' di.ownBlock) rfl rfl rfl rfl (fun ρ oo hop hx hy => by
        obtain ⟨d', w', a1, a2, a3, _⟩ := app_struct Try.underlying45 (show Try.prog.info? 49 = some Try.t49 by kernel_rfl) rfl rfl rfl rfl (by decide) (by decide) hown9 hb09.size (by omega) (m := 2) (news := [.string l[i].1, .slice A9 l[i].2.length c9]) rfl rfl (fun u hu => by
          rcases List.mem_cons.1 hu with rfl | hu
          · rfl
          · obtain rfl := List.mem_singleton.1 hu
            rfl) ρ oo hop hx hy
        exact ⟨d', w', a1, grown_other hownA a3 hGA (by decide), a2, a3⟩) rfl ?_
      rintro d12 w12 ⟨hown12, hg12⟩
      have hblk12 := grown_other hownA hg12 hblkA (by decide)
      have hG12 := grown_other hownA hg12 hGA (by decide)
      have hb012 : Below w.heap.size w w12 := (hb09.trans (hbA.mono hb09.size)).grown hg12 (by have := hb09.size; have := hbA.size; omega) (fun k hk => (World.ownsRow.lt hownA k hk).1)
      refine wg_take 13 rfl (by kernel_rfl) (by kernel_rfl) (by kernel_rfl) rfl (v := .pointer (some ⟨b0, 0, none⟩)) (fun _ ha _ _ => run_nilCheck _ _ rfl (ha.ev rfl)) rfl ?_
      refine wg_take 14 rfl (by kernel_rfl) (by kernel_rfl) (by kernel_rfl) rfl (v := .pointer (some ⟨b0, 0 + 0, none⟩)) (fun _ ha _ _ => by rw [run_fieldAddr _ _ rfl (ha.ev rfl) Try.underlying47 rfl (show Try.prog.info? 45 = some Try.t45 by kernel_rfl) (by decide), add_addr]; rfl) rfl ?_
      refine wg_one (i := 15) (by kernel_rfl) ?_
      obtain ⟨A12, n12, c12, rfl⟩ : ∃ A n c, d12 = .slice A n c := by
        rcases hown12.2 with ⟨rfl, _⟩ | ⟨g', cap, cur', rfl, _⟩
        · exact ⟨_, _, _, rfl⟩
        · exact ⟨_, _, _, rfl⟩
      refine wgo_unit (w' := w12.setRow b0 (#[di, .int .i32 g].setIfInBounds (0 + 0) (.slice A12 n12 c12))) rfl rfl (fun _ ha => run_store1 (i := Try.t45) rfl (ha.ev rfl) (ha.ev rfl) hblk12 (by kernel_rfl) rfl rfl rfl (by simp)) ?_ ?_
      · rw [setRow_other _ _ _ _ (by have := lt_of_some hblk3; omega)]
        exact hG12
      refine wg_done (by kernel_rfl) ?_
      skip
      refine wk_blockEnd ?_
      refine wk_reg (id := 6) ?_
      refine wk_add rfl rfl rfl ?_
      refine wk_move rfl rfl ?_
      refine wk_nil ?_
      refine wk_loopNext (i + 1, .slice A12 n12 c12, vs ++ [.slice A9 l[i].2.length c9]) (by simp only; omega) (congrArg (fun z => [some dv, some (Value.pointer (some ⟨b0, 0, none⟩)), some (Value.slice (some ⟨b, o, none⟩) l.length c), some (Value.int .i64 (l.length : Int)), some (Value.int .i64 z)]) hnx) ⟨by simp only; omega, ?_, ?_, by simp [hvl], ?_, below_set hb012 (by omega) _⟩
      · exact setRow_heap _ _ _ _ _ _ hblk12
      · simp only
        rw [rows_snoc hlt hvl, List.flatten_append]
        simpa using row_set hown12 hblk12 (by decide)
      · intro j u r hu hr
        simp only at hu
        refine row_set ?_ hblk12 (by decide)
        rcases Nat.lt_or_ge j vs.length with hj | hj
        · rw [List.getElem?_append_left hj] at hu
          exact row_grown (row_below (row_below (hio j u r hu hr) hb39) hbA) hownA hg12 (by decide)
        · rw [List.getElem?_append_right hj] at hu
          have hj0 : j - vs.length = 0 := by have := (List.getElem?_eq_some_iff.1 hu).1; simp at this; omega
          rw [hj0] at hu
          obtain rfl : j = i := by omega
          obtain rfl := Option.some.inj hu
          rw [List.getElem?_eq_getElem hlt] at hr
          obtain rfl := Option.some.inj hr
          exact row_grown (row_below ho9' hbA) hownA hg12 (by decide)
    · refine wgo_append (R := fun d' w' => IOwn w' w5.heap.size d' l[i].2 ∧ Below w5.heap.size w5 w') rfl rfl rfl rfl (fun ρ oo hop hx hy => by
        obtain ⟨d', w', a1, a2, a3⟩ := app_ints hvr5 (by omega) ρ oo hop hx hy
        exact ⟨d', w', a1, (a3.block _ (lt_of_some hG5)).trans hG5, a2, a3⟩) rfl ?_
      rintro d9 w9 ⟨ho9, hb9⟩
      have hG9 := (hb9.block _ (lt_of_some hG5)).trans hG5
      have hblk9 := (hb9.block _ (lt_of_some hblk5)).trans hblk5
      have hb39 := hb35.trans (hb9.mono hb35.size)
      have hb09 := hb3.trans (hb39.mono hb3.size)
      have hown9 := row_below hown3 hb39
      have ho9' : IOwn w9 w.heap.size d9 l[i].2 := row_mono ho9 hb05.size
      obtain ⟨A9, c9, rfl⟩ : ∃ A9 c9, d9 = .slice A9 l[i].2.length c9 := by
        obtain ⟨A9, c9, h9, _⟩ := PRep.of_own (X := fun _ => False) ho9 (fun _ _ _ h => h)
        exact ⟨A9, c9, h9⟩
      refine wg_take 10 rfl (by kernel_rfl) (by kernel_rfl) (by kernel_rfl) rfl (v := .agg #[.string l[i].1, .slice A9 l[i].2.length c9]) (fun _ ha w' _ => by
        have q2 := run_build (P := Try.prog) w' 49 #[(0, .string l[i].1), (1, .slice A9 l[i].2.length c9)] #[.string l[i].1, .slice A9 l[i].2.length c9] (by kernel_rfl)
        simp only [execOp, List.map_toArray, List.map_cons, List.map_nil, ha.ev (show evs _ (.tmp 25) = some (.string l[i].1) from rfl), ha.ev (show evs _ (.tmp 28) = some (.slice A9 l[i].2.length c9) from rfl)]
        simp [q2]) rfl ?_
      have hbA := below1 w9 (.cells #[.string l[i].1, .slice A9 l[i].2.length c9] 49)
      have hownA := row_below hown9 hbA
      have hGA := (hbA.block _ (lt_of_some hG9)).trans hG9
      have hblkA := (hbA.block _ (lt_of_some hblk9)).trans hblk9
      refine wg_two (i := 4) (j := 11) (by kernel_rfl) ?_ ?_
      · refine wgo_val (v := di) (w' := w9) rfl rfl (fun _ ha => run_load1 _ _ rfl (ha.ev rfl) Try.underlying45 rfl (cell_blk hblk9 rfl)) rfl hG9 ?_
        refine wg_one (i := 11) (by kernel_rfl) ?_
        refine wgo_val (v := .slice (some ⟨w9.heap.size, 0, none⟩) 1 1) (w' := w9.alloc (.cells #[.string l[i].1, .slice A9 l[i].2.length c9] 49)) rfl rfl
          (fun _ ha => run_bS (e := 49) (ie := Try.t49) (zv := .agg #[.string ⟨#[]⟩, .slice none 0 0]) (vs := [(0, .agg #[.string l[i].1, .slice A9 l[i].2.length c9])]) ha rfl rfl Try.underlying45 (by kernel_rfl) rfl rfl rfl (by kernel_rfl)) rfl hGA ?_
        refine wg_one (i := 12) (by kernel_rfl) ?_
        refine wgo_append (R := fun d' w' => w'.ownsRow w.heap.size 49 2 d' (i + 1) ((List.zipWith rowOf (l.take i) vs).flatten ++ ([Value.string l[i].1, Value.slice A9 l[i].2.length c9] : List Value)) ∧ (w9.alloc (.cells #[.string l[i].1, .slice A9 l[i].2.length c9] 49)).grownBy w' di.ownBlock) rfl rfl rfl rfl (fun ρ oo hop hx hy => by
          obtain ⟨d', w', a1, a2, a3, _⟩ := app_struct Try.underlying45 (show Try.prog.info? 49 = some Try.t49 by kernel_rfl) rfl rfl rfl rfl (by decide) (by decide) hown9 hb09.size (by omega) (m := 2) (news := [.string l[i].1, .slice A9 l[i].2.length c9]) rfl rfl (fun u hu => by
            rcases List.mem_cons.1 hu with rfl | hu
            · rfl
            · obtain rfl := List.mem_singleton.1 hu
              rfl) ρ oo hop hx hy
          exact ⟨d', w', a1, grown_other hownA a3 hGA (by decide), a2, a3⟩) rfl ?_
        rintro d12 w12 ⟨hown12, hg12⟩
        have hblk12 := grown_other hownA hg12 hblkA (by decide)
        have hG12 := grown_other hownA hg12 hGA (by decide)
        have hb012 : Below w.heap.size w w12 := (hb09.trans (hbA.mono hb09.size)).grown hg12 (by have := hb09.size; have := hbA.size; omega) (fun k hk => (World.ownsRow.lt hownA k hk).1)
        refine wg_take 13 rfl (by kernel_rfl) (by kernel_rfl) (by kernel_rfl) rfl (v := .pointer (some ⟨b0, 0, none⟩)) (fun _ ha _ _ => run_nilCheck _ _ rfl (ha.ev rfl)) rfl ?_
        refine wg_take 14 rfl (by kernel_rfl) (by kernel_rfl) (by kernel_rfl) rfl (v := .pointer (some ⟨b0, 0 + 0, none⟩)) (fun _ ha _ _ => by rw [run_fieldAddr _ _ rfl (ha.ev rfl) Try.underlying47 rfl (show Try.prog.info? 45 = some Try.t45 by kernel_rfl) (by decide), add_addr]; rfl) rfl ?_
        refine wg_one (i := 15) (by kernel_rfl) ?_
        obtain ⟨A12, n12, c12, rfl⟩ : ∃ A n c, d12 = .slice A n c := by
          rcases hown12.2 with ⟨rfl, _⟩ | ⟨g', cap, cur', rfl, _⟩
          · exact ⟨_, _, _, rfl⟩
          · exact ⟨_, _, _, rfl⟩
        refine wgo_unit (w' := w12.setRow b0 (#[di, .int .i32 g].setIfInBounds (0 + 0) (.slice A12 n12 c12))) rfl rfl (fun _ ha => run_store1 (i := Try.t45) rfl (ha.ev rfl) (ha.ev rfl) hblk12 (by kernel_rfl) rfl rfl rfl (by simp)) ?_ ?_
        · rw [setRow_other _ _ _ _ (by have := lt_of_some hblk3; omega)]
          exact hG12
        refine wg_done (by kernel_rfl) ?_
        skip
        refine wk_blockEnd ?_
        refine wk_reg (id := 6) ?_
        refine wk_add rfl rfl rfl ?_
        refine wk_move rfl rfl ?_
        refine wk_nil ?_
        refine wk_loopNext (i + 1, .slice A12 n12 c12, vs ++ [.slice A9 l[i].2.length c9]) (by simp only; omega) (congrArg (fun z => [some dv, some (Value.pointer (some ⟨b0, 0, none⟩)), some (Value.slice (some ⟨b, o, none⟩) l.length c), some (Value.int .i64 (l.length : Int)), some (Value.int .i64 z)]) hnx) ⟨by simp only; omega, ?_, ?_, by simp [hvl], ?_, below_set hb012 (by omega) _⟩
        · exact setRow_heap _ _ _ _ _ _ hblk12
        · simp only
          rw [rows_snoc hlt hvl, List.flatten_append]
          simpa using row_set hown12 hblk12 (by decide)
        · intro j u r hu hr
          simp only at hu
          refine row_set ?_ hblk12 (by decide)
          rcases Nat.lt_or_ge j vs.length with hj | hj
          · rw [List.getElem?_append_left hj] at hu
            exact row_grown (row_below (row_below (hio j u r hu hr) hb39) hbA) hownA hg12 (by decide)
          · rw [List.getElem?_append_right hj] at hu
            have hj0 : j - vs.length = 0 := by have := (List.getElem?_eq_some_iff.1 hu).1; simp at this; omega
            rw [hj0] at hu
            obtain rfl : j = i := by omega
            obtain rfl := Option.some.inj hu
            rw [List.getElem?_eq_getElem hlt] at hr
            obtain rfl := Option.some.inj hr
            exact row_grown (row_below ho9' hbA) hownA hg12 (by decide)
      · refine wgo_val (v := .slice (some ⟨w9.heap.size, 0, none⟩) 1 1) (w' := w9.alloc (.cells #[.string l[i].1, .slice A9 l[i].2.length c9] 49)) rfl rfl
          (fun _ ha => run_bS (e := 49) (ie := Try.t49) (zv := .agg #[.string ⟨#[]⟩, .slice none 0 0]) (vs := [(0, .agg #[.string l[i].1, .slice A9 l[i].2.length c9])]) ha rfl rfl Try.underlying45 (by kernel_rfl) rfl rfl rfl (by kernel_rfl)) rfl hGA ?_
        refine wg_one (i := 4) (by kernel_rfl) ?_
        refine wgo_val (v := di) (w' := w9.alloc (.cells #[.string l[i].1, .slice A9 l[i].2.length c9] 49)) rfl rfl (fun _ ha => run_load1 _ _ rfl (ha.ev rfl) Try.underlying45 rfl (cell_blk hblkA rfl)) rfl hGA ?_
        refine wg_one (i := 12) (by kernel_rfl) ?_
        refine wgo_append (R := fun d' w' => w'.ownsRow w.heap.size 49 2 d' (i + 1) ((List.zipWith rowOf (l.take i) vs).flatten ++ ([Value.string l[i].1, Value.slice A9 l[i].2.length c9] : List Value)) ∧ (w9.alloc (.cells #[.string l[i].1, .slice A9 l[i].2.length c9] 49)).grownBy w' di.ownBlock) rfl rfl rfl rfl (fun ρ oo hop hx hy => by
          obtain ⟨d', w', a1, a2, a3, _⟩ := app_struct Try.underlying45 (show Try.prog.info? 49 = some Try.t49 by kernel_rfl) rfl rfl rfl rfl (by decide) (by decide) hown9 hb09.size (by omega) (m := 2) (news := [.string l[i].1, .slice A9 l[i].2.length c9]) rfl rfl (fun u hu => by
            rcases List.mem_cons.1 hu with rfl | hu
            · rfl
            · obtain rfl := List.mem_singleton.1 hu
              rfl) ρ oo hop hx hy
          exact ⟨d', w', a1, grown_other hownA a3 hGA (by decide), a2, a3⟩) rfl ?_
        rintro d12 w12 ⟨hown12, hg12⟩
        have hblk12 := grown_other hownA hg12 hblkA (by decide)
        have hG12 := grown_other hownA hg12 hGA (by decide)
        have hb012 : Below w.heap.size w w12 := (hb09.trans (hbA.mono hb09.size)).grown hg12 (by have := hb09.size; have := hbA.size; omega) (fun k hk => (World.ownsRow.lt hownA k hk).1)
        refine wg_take 13 rfl (by kernel_rfl) (by kernel_rfl) (by kernel_rfl) rfl (v := .pointer (some ⟨b0, 0, none⟩)) (fun _ ha _ _ => run_nilCheck _ _ rfl (ha.ev rfl)) rfl ?_
        refine wg_take 14 rfl (by kernel_rfl) (by kernel_rfl) (by kernel_rfl) rfl (v := .pointer (some ⟨b0, 0 + 0, none⟩)) (fun _ ha _ _ => by rw [run_fieldAddr _ _ rfl (ha.ev rfl) Try.underlying47 rfl (show Try.prog.info? 45 = some Try.t45 by kernel_rfl) (by decide), add_addr]; rfl) rfl ?_
        refine wg_one (i := 15) (by kernel_rfl) ?_
        obtain ⟨A12, n12, c12, rfl⟩ : ∃ A n c, d12 = .slice A n c := by
          rcases hown12.2 with ⟨rfl, _⟩ | ⟨g', cap, cur', rfl, _⟩
          · exact ⟨_, _, _, rfl⟩
          · exact ⟨_, _, _, rfl⟩
        refine wgo_unit (w' := w12.setRow b0 (#[di, .int .i32 g].setIfInBounds (0 + 0) (.slice A12 n12 c12))) rfl rfl (fun _ ha => run_store1 (i := Try.t45) rfl (ha.ev rfl) (ha.ev rfl) hblk12 (by kernel_rfl) rfl rfl rfl (by simp)) ?_ ?_
        · rw [setRow_other _ _ _ _ (by have := lt_of_some hblk3; omega)]
          exact hG12
        refine wg_done (by kernel_rfl) ?_
        skip
        refine wk_blockEnd ?_
        refine wk_reg (id := 6) ?_
        refine wk_add rfl rfl rfl ?_
        refine wk_move rfl rfl ?_
        refine wk_nil ?_
        refine wk_loopNext (i + 1, .slice A12 n12 c12, vs ++ [.slice A9 l[i].2.length c9]) (by simp only; omega) (congrArg (fun z => [some dv, some (Value.pointer (some ⟨b0, 0, none⟩)), some (Value.slice (some ⟨b, o, none⟩) l.length c), some (Value.int .i64 (l.length : Int)), some (Value.int .i64 z)]) hnx) ⟨by simp only; omega, ?_, ?_, by simp [hvl], ?_, below_set hb012 (by omega) _⟩
        · exact setRow_heap _ _ _ _ _ _ hblk12
        · simp only
          rw [rows_snoc hlt hvl, List.flatten_append]
          simpa using row_set hown12 hblk12 (by decide)
        · intro j u r hu hr
          simp only at hu
          refine row_set ?_ hblk12 (by decide)
          rcases Nat.lt_or_ge j vs.length with hj | hj
          · rw [List.getElem?_append_left hj] at hu
            exact row_grown (row_below (row_below (hio j u r hu hr) hb39) hbA) hownA hg12 (by decide)
          · rw [List.getElem?_append_right hj] at hu
            have hj0 : j - vs.length = 0 := by have := (List.getElem?_eq_some_iff.1 hu).1; simp at this; omega
            rw [hj0] at hu
            obtain rfl : j = i := by omega
            obtain rfl := Option.some.inj hu
            rw [List.getElem?_eq_getElem hlt] at hr
            obtain rfl := Option.some.inj hr
            exact row_grown (row_below ho9' hbA) hownA hg12 (by decide)
  · obtain rfl : i = l.length := by omega
    have c2 : cmp .lss ((l.length : Nat) : Int) (l.length : Int) = some false := by simp [cmp]
    rw [List.take_length] at hown3
    have hor : ORep w3 (fun q => w3.heap.size ≤ q) di l := ORep.of_rows (X := fun q => w3.heap.size ≤ q) hvl hown3 hio (fun r hr => by
      obtain ⟨j, hj⟩ := List.getElem?_of_mem hr
      exact (hvals j r hj).2) (fun b hb _ h => by have h : w3.heap.size ≤ b := h; omega)
    refine wk_seq ?_
    refine wk_reg (id := 3) ?_
    refine wk_cmp rfl rfl (by with_reducible assumption) rfl ?_
    refine wk_nil ?_
    refine wk_seq ?_
    refine wk_condF rfl ?_
    refine wk_loopExit ?_
    refine wk_seq ?_
    refine wk_reg (id := 7) ?_
    refine wk_move rfl rfl ?_
    refine wk_move rfl rfl ?_
    refine wk_call Try.call16 (vs := [dv]) rfl rfl ((own_any w3 X dv dl (hd.keep (keeps_below hb3 (Nat.le_refl _))) (by rw [lim_eq]; omega)).mono ?_)
    rintro e w6 ⟨d6, rfl, ho6, hb6⟩
    refine ⟨_, rfl, ?_⟩
    have hblk6 := (hb6.block _ (lt_of_some hblk3)).trans hblk3
    skip
    refine wk_call Try.call15 (vs := [.pointer (some ⟨b0, 0, none⟩), d6]) rfl rfl ((stk_append w6 w3.heap.size b0 d6 di dl l g hblk6 (lt_of_some hblk3) (hor.keep (Keeps.of_below hb6)) ho6 hb6.size hl hp hdl).mono ?_)
    rintro e w7 ⟨d7, rfl, ho7, hb7⟩
    refine ⟨_, rfl, ?_⟩
    refine wk_assign rfl rfl ?_
    refine wk_nil ?_
    exact wk_ret r0 rfl rfl ⟨d7, rfl, own_mono ho7 hb3.size, hb3.trans ((hb6.trans hb7).mono hb3.size)⟩
end Go.Proofs.Ythejiimocbfagaa
