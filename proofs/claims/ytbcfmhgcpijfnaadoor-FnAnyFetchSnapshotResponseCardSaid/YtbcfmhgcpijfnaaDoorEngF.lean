/-
  Structs that are built, stored and taken apart; slices of structs.
-/
import Derived.Test.YtbcfmhgcpijfnaaDoorEngE
set_option linter.unusedVariables false
set_option linter.unusedSimpArgs false
namespace Go.Proofs.Eng
open Go Go.RowKit
attribute [local semireducible] wk wkD

/-- What parts are, of what is known. -/
def partsB (σ : Sv) (ps : List (Nat × Operand)) : Option (List (Nat × Value)) := ps.mapM fun p => (evs σ p.2).map fun v => (p.1, v)
theorem partsB_ok {nT : Nat} {σ : Sv} {a : Act} (ha : Knows nT σ a) : ∀ (ps : List (Nat × Operand)) (vs : List (Nat × Value)), partsB σ ps = some vs → (ps.map fun (i, x) => (i, a.eval x)) = vs := by
  intro ps
  induction ps with
  | nil => intro vs h; simp [partsB] at h; subst h; rfl
  | cons p r ih =>
    intro vs h
    obtain ⟨i, x⟩ := p
    simp only [partsB, List.mapM_cons, Option.bind_eq_bind, Option.pure_def, Option.bind_eq_some_iff, Option.map_eq_some_iff] at h
    obtain ⟨_, ⟨v, hv, rfl⟩, rs, hr, h2⟩ := h
    cases h2
    rw [List.map_cons, ih rs hr]
    show (i, a.eval x) :: rs = _
    rw [ha.ev hv]

section
variable {P : Program} {Q : Exit → Act → World → Prop} {nT : Nat} {σ : Sv} {k : List TD} {w : World} {all : Array Oper} {l : List Oper} {ty : TypeId} {ps : String} {af : Array Edge} {d : Nat} {x y z : Operand} {t t' : TypeId}

theorem wk_build {parts : List (Nat × Operand)} {vs : List (Nat × Value)} {cells : Array Value} (hv : partsB σ parts = some vs) (hb : P.built t vs = some cells) (hd : Nat.blt d nT = true) (h : wk P Q nT ((d, .agg cells) :: σ) (.ops all l :: k) w) :
    wk P Q nT σ (.ops all (⟨some d, .build t parts.toArray, ty, ps, af, none⟩ :: l) :: k) w := by
  refine wk_val (fun a ha => ?_) hd h
  have h1 := partsB_ok ha _ _ hv
  have h2 := run_build (P := P) w t vs.toArray cells (by simpa using hb)
  have h3 : (parts.toArray.map fun (i, x) => (i, a.eval x)) = vs.toArray := by rw [List.map_toArray, h1]
  unfold execOp
  simp only [h3, Sem.run_bind, h2, Result.andThen_ok]
  rfl
theorem wk_buildS {e : TypeId} {n : Nat} {parts : List (Nat × Operand)} {vs : List (Nat × Value)} {cells : Array Value} {ie : TypeInfo} {zv : Value} (hv : partsB σ parts = some vs) (hu : P.underlying t = some (.slice e)) (hie : P.info? e = some ie) (hz : ie.zero = some zv)
    (hsm : Nat.ble (n * ie.size) 16777216 = true) (hpos : Nat.blt 0 (n * ie.size) = true) (hf : Instr.fill (fun i => some (i * ie.size, ie.size)) ((Array.range (n * ie.size)).map (zv.cells[· % zv.cells.size]!)) vs = some cells) (hd : Nat.blt d nT = true)
    (h : wk P Q nT ((d, .slice (some ⟨w.heap.size, 0, none⟩) n n) :: σ) (.ops all l :: k) (w.alloc (.cells cells e))) :
    wk P Q nT σ (.ops all (⟨some d, .buildSlice t n parts.toArray, ty, ps, af, none⟩ :: l) :: k) w := by
  refine wk_val (fun a ha => ?_) hd h
  have h1 := partsB_ok ha _ _ hv
  have hsm := Nat.le_of_ble_eq_true hsm
  have hpos : 0 < n * ie.size := by simpa [Nat.blt_eq] using hpos
  have h2 := run_buildSlice (P := P) w t e n vs.toArray cells ie zv hu hie hz (by omega) (by omega) (by simpa using hf)
  have h3 : (parts.toArray.map fun (i, x) => (i, a.eval x)) = vs.toArray := by rw [List.map_toArray, h1]
  unfold execOp
  simp only [h3, Sem.run_bind, h2, Result.andThen_ok]
  rfl
theorem wk_fieldOp {f : Nat} {cs : Array Value} {v : Value} {fs : Array Field} {fd : Field} {dd : TypeDesc} (hx : evs σ x = some (.agg cs)) (hs : P.underlying t = some (.struct fs)) (hf : fs[f]? = some fd) (hu : P.underlying fd.type = some dd) (ha : aggB dd = false) (hv : cs[fd.offset]? = some v)
    (hd : Nat.blt d nT = true) (h : wk P Q nT ((d, v) :: σ) (.ops all l :: k) w) : wk P Q nT σ (.ops all (⟨some d, .field t x f, ty, ps, af, none⟩ :: l) :: k) w := by
  refine wk_val (fun a hk => ?_) hd h
  have hag : (isAgg fd.type).run P w = .ok false w := by
    simp only [isAgg, Sem.run_bind, run_underlying hu, Result.andThen_ok]
    cases dd <;> simp_all [aggB]
  have : (Instr.field t (a.eval x) f).run P w = .ok v w := by
    rw [hk.ev hx]
    simp only [Instr.field, Sem.run_bind, run_underlying hs, Result.andThen_ok, hf, asAgg, Sem.run_pure, part, hag, hv]
    rfl
  unfold execOp
  simp only [Sem.run_bind, this, Result.andThen_ok]
  rfl
theorem wk_storeRow {b : Nat} {old cs : Array Value} {u : TypeId} {i : TypeInfo} (hx : evs σ x = some (.pointer (some ⟨b, 0, none⟩))) (hy : evs σ y = some (.agg cs)) (hb : w.heap[b]? = some (.cells old u (0, 0))) (hi : P.info? t = some i) (hn : i.size = cs.size) (ho : old.size = cs.size) (h1 : cs.all (·.oneCell') = true)
    (h : wk P Q nT σ (.ops all l :: k) (w.setRow b cs)) : wk P Q nT σ (.ops all (⟨none, .store t x y, ty, ps, af, none⟩ :: l) :: k) w := by
  refine wk_unit (fun a ha => ?_) h
  have := run_storeVar_row (P := P) w b u t old cs hb (by simp [hi, hn]) ho h1
  simp [execOp, ha.ev hx, ha.ev hy, Instr.storeAt, Instr.sureAddr, this]
theorem wk_store1 {b o : Nat} {cur : Array Value} {u : TypeId} {i : TypeInfo} {v : Value} (hx : evs σ x = some (.pointer (some ⟨b, o, none⟩))) (hy : evs σ y = some v) (hb : w.heap[b]? = some (.cells cur u (0, 0))) (hi : P.info? t = some i) (hn : i.size = 1) (h1 : v.oneCell' = true) (hc : v.cells = #[v]) (ho : o < cur.size)
    (h : wk P Q nT σ (.ops all l :: k) (w.setRow b (cur.setIfInBounds o v))) : wk P Q nT σ (.ops all (⟨none, .store t x y, ty, ps, af, none⟩ :: l) :: k) w := by
  refine wk_unit (fun a ha => ?_) h
  have hcell : w.cell? ⟨b, o, none⟩ = some cur[o] := by simp [World.cell?, hb, ho]
  have hfro : w.frozen? ⟨b, o, none⟩ = false := by simp [World.frozen?, hb]
  have hst : (store (⟨b, o, none⟩ : Addr) v).run P w = .ok () (w.setRow b (cur.setIfInBounds o v)) := by
    rw [run_store P w _ v _ h1, hcell]
    simp [hfro, setCell_eq_setRow w b o cur u (0, 0) v hb]
  have hst2 : (storeVar t ⟨b, o, none⟩ v).run P w = .ok () (w.setRow b (cur.setIfInBounds o v)) := by
    have ha0 : (⟨b, o, none⟩ : Addr).add 0 = ⟨b, o, none⟩ := by rw [add_addr]; rfl
    simp [storeVar, sizeOf, typeInfo, hi, hn, hc, storeCells, ha0, hst]
  simp [execOp, ha.ev hx, ha.ev hy, Instr.storeAt, Instr.sureAddr, hst2]
end

theorem flat_get {α : Type} {m : Nat} : ∀ (rows : List (List α)), (∀ r ∈ rows, r.length = m) → ∀ (i k : Nat) (h : i < rows.length), k < m → rows.flatten[i * m + k]? = rows[i][k]? := by
  intro rows
  induction rows with
  | nil => intro _ i k h; simp at h
  | cons r rs ih =>
    intro hr i k h hk
    have hrl := hr r (by simp)
    cases i with
    | zero =>
      simp only [Nat.zero_mul, Nat.zero_add, List.flatten_cons, List.getElem_cons_zero]
      rw [List.getElem?_append_left (by omega)]
    | succ i =>
      simp only [List.flatten_cons, List.getElem_cons_succ]
      rw [List.getElem?_append_right (by rw [hrl, Nat.succ_mul]; omega), hrl, show (i + 1) * m + k - m = i * m + k from by rw [Nat.succ_mul]; omega]
      exact ih (fun x hx => hr x (by simp [hx])) i k (by simpa using h) hk
theorem flat_len5 {α : Type} {m : Nat} : ∀ (rows : List (List α)), (∀ r ∈ rows, r.length = m) → rows.flatten.length = rows.length * m := by
  intro rows
  induction rows with
  | nil => intro _; simp
  | cons r rs ih =>
    intro hr
    rw [List.flatten_cons, List.length_append, hr r (by simp), ih (fun x hx => hr x (by simp [hx])), List.length_cons, Nat.succ_mul]
    omega
/-- A slice of structs that is one's own, as it is read. -/
theorem lies_of_own {w : World} {base : Nat} {X : Nat → Prop} {e : TypeId} {m : Nat} {d : Value} {rows : List (List Value)} (h : w.ownsRow base e m d rows.length rows.flatten) (hr : ∀ r ∈ rows, r.length = m) (hm : 0 < m) (hx : ∀ b, b < w.heap.size → base ≤ b → ¬ X b) :
    Lies w X d rows.length m (fun i => match rows[i]? with | some r => r | none => []) := by
  rcases h.2 with ⟨rfl, h0⟩ | ⟨g, cap, cur, rfl, hb, hh, hnc, _, _, ht⟩
  · rw [h0]
    exact ⟨none, 0, rfl, Nat.le_refl _, fun _ => ⟨rfl, rfl⟩, fun i hi => by omega⟩
  · refine ⟨_, cap, rfl, hnc, fun h => by simp at h, fun i hi => ?_⟩
    have hri : rows[i]? = some rows[i] := List.getElem?_eq_getElem hi
    simp only [hri]
    refine ⟨hr _ (List.getElem_mem hi), g, 0, rfl, hx g (lt_of_some hh) hb, lt_of_some hh, fun k u hk => ?_⟩
    have hkm : k < m := by
      have := (List.getElem?_eq_some_iff.1 hk).1
      rw [hr _ (List.getElem_mem hi)] at this
      exact this
    rw [Nat.zero_add, cell_of_row w g (i * m + k) cur e (0, 0) hh, ← Array.getElem?_toList]
    have h1 := flat_get rows hr i k hi hkm
    rw [← ht, hk, List.getElem?_take] at h1
    split at h1
    · exact h1
    · cases h1
/-- Append of one struct that has just been laid. -/
theorem app_struct {P : Program} {t e : TypeId} {i : TypeInfo} {z : Value} {m by' : Nat} (hsl : P.underlying t = some (.slice e)) (hi : P.info? e = some i) (hz : i.zero = some z) (hs : i.size = m) (hby : i.bytes = by') (hzs : z.cells.size = m) (hm : 0 < m) (hbm : by' ≤ 1024)
    {w : World} {base : Nat} {d : Value} {n : Nat} {xs news : List Value} {cur : Array Value} (hown : w.ownsRow base e m d n xs) (hb : base ≤ w.heap.size) (hn : n < 4294967296) (hnl : news.length = m) (hc : cur.toList = news) (h1 : ∀ u ∈ news, u.oneCell' = true)
    {x y : Operand} (ρ : Operand → Value) (o : Oper) (ho : o.op = .call ⟨.builtin .append, #[x, y], #[t, t]⟩) (hx : ρ x = d) (hy : ρ y = .slice (some ⟨w.heap.size, 0, none⟩) 1 1) :
    ∃ d' w', (execOp ρ o).run P (w.alloc (.cells cur e)) = .ok (.value d') w' ∧ w'.ownsRow base e m d' (n + 1) (xs ++ news) ∧ (w.alloc (.cells cur e)).grownBy w' d.ownBlock ∧ (d'.ownBlock = d.ownBlock ∨ d'.ownBlock = some (w.heap.size + 1)) := by
  have hown' : (w.alloc (.cells cur e)).ownsRow base e m d n xs := by
    refine ⟨hown.1, hown.2.imp id ?_⟩
    rintro ⟨g, cap, cu, a1, a2, a3, a4⟩
    exact ⟨g, cap, cu, a1, a2, (Below.heap_alloc w _ g (lt_of_some a3)).trans a3, a4⟩
  obtain ⟨d', w', h2, h3, h4, _, h5⟩ := run_append_own_at (P := P) (w.alloc (.cells cur e)) base t o.type e i z m by' hsl hi hz hs hby hzs hm d n xs hown' ⟨w.heap.size, 0, none⟩ 1 1 news (by omega)
    (by subst hc; exact cells_blk (heap_alloc_last w _)) h1 (by unfold maxLen; omega)
    (by have : (n + 1) * by' ≤ 4294967296 * 1024 := Nat.mul_le_mul (by omega) hbm
        omega) (by simp; omega)
  refine ⟨d', w', ?_, h3, h4, ?_⟩
  · simp [execOp, ho, resolve, invoke, builtin, hx, hy, h2]
  · simpa using h5
end Go.Proofs.Eng
