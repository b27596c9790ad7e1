/-
  What a member says, as the package takes it over: a list of its own.
-/
import Derived.Test.YthejiimocbfagaaStk2
import Derived.Maps.AppendAt
set_option linter.unusedVariables false
set_option linter.unusedSimpArgs false
namespace Go.Proofs.Ythejiimocbfagaa
open Go Go.RowKit Go.Proofs.Eng
set_option maxRecDepth 20000
set_option maxHeartbeats 4000000
theorem eq4 {a a' z z' : Int} {p q : Option Value} (h : a = a') (h' : z = z') : [some (Value.int .i64 a), p, q, some (Value.int .i64 z)] = [some (Value.int .i64 a'), p, q, some (Value.int .i64 z')] := by rw [h, h']
theorem small_any (w : World) (X : Nat → Prop) (v : Value) (l : List (ByteArray × List Int)) (g : Int) (hv : ORep w X v l) (hl32 : l.length ≤ 2147483647) (hall : ∀ r ∈ l, r.1.size ≤ 2147483647 ∧ r.2.length ≤ 2147483647) :
    Calls Try.prog 6 #[.agg #[v, .int .i32 g]] w fun e w' => ∃ b, e = .returned (.bool b) ∧ (b = true → l.length + (l.map fun r => r.2.length).sum ≤ 2000 ∧ ∀ r ∈ l, r.1.size ≤ 32767) ∧ Below w.heap.size w w' := by
  obtain ⟨vals, hL, hvals⟩ := hv
  obtain ⟨A, c, rfl, _⟩ := id hL
  have h1 := heap_alloc_new w (.cells #[.slice A l.length c, .int .i32 g] 25)
  have hb0 := below1 w (.cells #[.slice A l.length c, .int .i32 g] 25)
  refine calls_wk (args := [.agg #[.slice A l.length c, .int .i32 g]]) Try.func6 rfl rfl ?_
  refine wk_seq ?_
  refine wk_reg (id := 0) ?_
  refine wk_box rfl rfl ?_
  refine wk_assign rfl rfl ?_
  refine wk_nil ?_
  refine wk_seq ?_
  refine wk_reg (id := 1) ?_
  refine wk_field (f := 0) (i := Try.t23) rfl Try.underlying25 rfl (by kernel_rfl) (by decide) rfl ?_
  refine wk_load rfl Try.underlying23 rfl (by exact cell_new rfl) rfl ?_
  refine wk_slen rfl Try.underlying23 rfl ?_
  refine wk_assign rfl rfl ?_
  refine wk_nil ?_
  refine wk_seq ?_
  refine wk_seq ?_
  refine wk_reg (id := 2) ?_
  refine wk_field (f := 0) (i := Try.t23) rfl Try.underlying25 rfl (by kernel_rfl) (by decide) rfl ?_
  refine wk_load rfl Try.underlying23 rfl (by exact cell_new rfl) rfl ?_
  refine wk_slen rfl Try.underlying23 rfl ?_
  refine wk_move rfl rfl ?_
  refine wk_nil ?_
  first
    | refine wk_load (v := .slice A l.length c) rfl Try.underlying23 rfl (cell_blk h1 rfl) rfl ?_
    | skip
  skip
  first
    | refine wk_load (v := .slice A l.length c) rfl Try.underlying23 rfl (cell_blk h1 rfl) rfl ?_
    | skip
  skip
  refine wk_loop (fun i : Nat => [(3, .int .i64 ((l.length + ((l.take i).map fun r => r.2.length).sum : Nat) : Int)), (10, .slice A l.length c), (11, .int .i64 (l.length : Int)), (12, .int .i64 (i : Int))]) (fun i w' => i ≤ l.length ∧ (∀ r ∈ l.take i, r.1.size ≤ 32767) ∧ Below w.heap.size w w') (fun i => l.length - i) 0 rfl ⟨Nat.zero_le _, by simp, hb0⟩ ?_
  rintro i w1 ⟨hi, hsm, hb⟩
  have hsum := sumLe 2147483647 (l.take i) (fun r hr => (hall r (List.mem_of_mem_take hr)).2)
  rw [List.length_take] at hsum
  by_cases hlt : i < l.length
  · have c2 : cmp .lss (i : Int) (l.length : Int) = some true := by simp [cmp, hlt]
    have hnx : IntKind.i64.wrap ((i : Int) + 1) = ((i + 1 : Nat) : Int) := i64w ((i : Int) + 1) (by omega) (by omega)
    obtain ⟨_, b, o, rfl, hcell⟩ := ORep.at hL hb hlt
    have hvr := (hvals i _ (List.getElem?_eq_getElem hlt)).1
    obtain ⟨A2, c2', hvi, _⟩ := hvr
    rw [hvi] at hcell
    have hmem : l[i] ∈ l := List.getElem_mem hlt
    have hns : IntKind.i64.wrap (((l.length + ((l.take i).map fun r => r.2.length).sum : Nat) : Int) + (l[i].2.length : Int)) = ((l.length + ((l.take (i + 1)).map fun r => r.2.length).sum : Nat) : Int) := by
      have e : ((l.take (i + 1)).map fun r => r.2.length).sum = ((l.take i).map fun r => r.2.length).sum + l[i].2.length := by
        rw [List.take_add_one, List.getElem?_eq_getElem hlt, List.map_append, List.sum_append]
        simp
      rw [e]
      have h3 := (hall _ hmem).2
      have h4 : min i l.length * 2147483647 ≤ 2147483646 * 2147483647 := Nat.mul_le_mul (by omega) (Nat.le_refl _)
      refine (i64w _ (by omega) (by omega)).trans (by omega)
    refine wk_seq ?_
    refine wk_reg (id := 3) ?_
    refine wk_cmp rfl rfl (by with_reducible assumption) rfl ?_
    refine wk_nil ?_
    refine wk_seq ?_
    refine wk_condT rfl ?_
    refine wk_skip ?_
    refine wk_seq ?_
    refine wk_block ?_
    refine wk_seq ?_
    refine wk_reg (id := 4) ?_
    refine wk_idx (i := Try.t42) rfl rfl Try.underlying23 (by kernel_rfl) hlt rfl ?_
    refine wk_loadA (i := Try.t42) rfl Try.underlying42 rfl (by kernel_rfl) (vs := [.string l[i].1, .slice A2 l[i].2.length c2']) rfl hcell rfl ?_
    refine wk_alloc (t := 42) (i := Try.t42) (by kernel_rfl) rfl rfl ?_
    refine wk_storeNew (i := Try.t42) (c' := #[.string l[i].1, .slice A2 l[i].2.length c2']) rfl rfl (by kernel_rfl) rfl rfl (one2 rfl rfl) ?_
    have hG := heap_alloc_new w1 (.cells #[.string l[i].1, .slice A2 l[i].2.length c2'] 42)
    have hb2 := hb.trans ((below1 w1 (.cells #[.string l[i].1, .slice A2 l[i].2.length c2'] 42)).mono hb.size)
    refine wk_nil ?_
    refine wk_seq ?_
    refine wk_seq ?_
    refine wk_reg (id := 5) ?_
    refine wk_field (f := 0) (i := Try.t9) rfl Try.underlying42 rfl (by kernel_rfl) (by decide) rfl ?_
    refine wk_load rfl Try.underlying9 rfl (by exact cell_blk (by with_reducible assumption) rfl) rfl ?_
    refine wk_strlen rfl Try.underlying9 rfl ?_
    refine wk_cmp rfl rfl rfl rfl ?_
    refine wk_nil ?_
    first
      | refine wk_load (v := .string l[i].1) rfl Try.underlying9 rfl (cell_blk hG rfl) rfl ?_
      | skip
    have c3 : cmp .gtr (l[i].1.size : Int) 32767 = some (decide ((l[i].1.size : Int) > 32767)) := rfl
    skip
    refine wk_cond (b := decide ((l[i].1.size : Int) > 32767)) rfl (fun _ => ?_) (fun h => ?_)
    · refine wk_seq ?_
      refine wk_reg (id := 6) ?_
      refine wk_assign rfl rfl ?_
      refine wk_nil ?_
      exact wk_ret (rb (rl r0)) rfl rfl ⟨false, rfl, (fun h => by cases h), hb2⟩
    have h5 := of_decide_eq_false h
    refine wk_skip ?_
    refine wk_reg (id := 7) ?_
    refine wk_move rfl rfl ?_
    refine wk_field (f := 1) (i := Try.t40) rfl Try.underlying42 rfl (by kernel_rfl) (by decide) rfl ?_
    refine wk_load rfl Try.underlying40 rfl (by exact cell_blk (by with_reducible assumption) rfl) rfl ?_
    refine wk_slen rfl Try.underlying40 rfl ?_
    refine wk_add rfl rfl rfl ?_
    refine wk_assign rfl rfl ?_
    refine wk_nil ?_
    first
      | refine wk_load (v := .slice A2 l[i].2.length c2') rfl Try.underlying40 rfl (cell_blk hG rfl) rfl ?_
      | skip
    skip
    refine wk_blockEnd ?_
    refine wk_reg (id := 8) ?_
    refine wk_add rfl rfl rfl ?_
    refine wk_move rfl rfl ?_
    refine wk_nil ?_
    refine wk_loopNext (i + 1) (by omega) (eq4 hns hnx) ⟨by omega, ?_, hb2⟩
    · intro r hr
      rw [List.take_add_one, List.getElem?_eq_getElem hlt] at hr
      rcases List.mem_append.1 hr with h6 | h6
      · exact hsm r h6
      · obtain rfl : r = l[i] := by simpa using h6
        omega
  · obtain rfl : i = l.length := by omega
    have c2 : cmp .lss ((l.length : Nat) : Int) (l.length : Int) = some false := by simp [cmp]
    have c3 : cmp .leq ((l.length + ((l.take l.length).map fun r => r.2.length).sum : Nat) : Int) 2000 = some (decide (((l.length + ((l.take l.length).map fun r => r.2.length).sum : Nat) : Int) ≤ 2000)) := rfl
    refine wk_seq ?_
    refine wk_reg (id := 3) ?_
    refine wk_cmp rfl rfl (by with_reducible assumption) rfl ?_
    refine wk_nil ?_
    refine wk_seq ?_
    refine wk_condF rfl ?_
    refine wk_loopExit ?_
    refine wk_seq ?_
    refine wk_reg (id := 9) ?_
    refine wk_move rfl rfl ?_
    refine wk_cmp rfl rfl (by with_reducible assumption) rfl ?_
    refine wk_assign rfl rfl ?_
    refine wk_nil ?_
    refine wk_ret r0 rfl rfl ⟨_, rfl, fun h => ?_, hb⟩
    rw [List.take_length] at h hsm
    have h7 := of_decide_eq_true h
    exact ⟨by omega, hsm⟩

/-! ## numbers of one's own -/
def IOwn (w : World) (base : Nat) (d : Value) (l : List Int) : Prop := w.ownsRow base 21 1 d l.length (l.map fun z => .int .i32 z)
theorem flat1 : ∀ (l : List Int), (l.map fun z => [Value.int .i32 z]).flatten = l.map fun z => Value.int .i32 z := by
  intro l
  induction l with
  | nil => rfl
  | cons z r ih => simp [ih]
theorem PRep.of_own {w : World} {base : Nat} {X : Nat → Prop} {d : Value} {l : List Int} (h : IOwn w base d l) (hx : ∀ b, b < w.heap.size → base ≤ b → ¬ X b) : PRep w X d l := by
  have h2 := lies_of_own (rows := l.map fun z => [Value.int .i32 z]) (m := 1) (e := 21) (d := d) (X := X) (w := w) (base := base) (by
    have e := flat1 l
    rw [e, List.length_map]
    exact h) (by simp) (by omega) hx
  rw [List.length_map] at h2
  obtain ⟨A, c, h3, h4, h5, h6⟩ := h2
  refine ⟨A, c, h3, h4, h5, fun i hi => ?_⟩
  have h7 := h6 i hi
  simp only [List.getElem?_map, List.getElem?_eq_getElem hi, Option.map_some] at h7
  simp only [List.getElem?_eq_getElem hi]
  exact h7
theorem i32T : Try.prog.underlying 40 = some (.slice 21) := Try.underlying40
/-- Append of numbers to nothing. -/
theorem app_ints {w : World} {X : Nat → Prop} {v : Value} {l : List Int} (hv : PRep w X v l) (hl : l.length ≤ 2147483647) {x y : Operand} (ρ : Operand → Value) (o : Oper) (ho : o.op = .call ⟨.builtin .append, #[x, y], #[40, 40]⟩) (hx : ρ x = .slice none 0 0) (hy : ρ y = v) :
    ∃ d' w', (execOp ρ o).run Try.prog w = .ok (.value d') w' ∧ IOwn w' w.heap.size d' l ∧ Below w.heap.size w w' := by
  obtain ⟨A, c, rfl, hc, hnil, hat⟩ := hv
  have hi : Try.prog.info? 21 = some Try.t21 := by kernel_rfl
  cases A with
  | none =>
    obtain ⟨h1, h2⟩ := hnil rfl
    have hl0 : l = [] := List.eq_nil_of_length_eq_zero h1
    subst hl0
    subst h2
    refine ⟨.slice none 0 0, w, ?_, World.ownsRow_nil _ _ _ _, Below.refl _ _⟩
    simp [execOp, ho, resolve, invoke, builtin, hx, hy, Builtin.append_, run_underlying i32T, sizeOf, typeInfo, hi, Builtin.lenOf, Builtin.firstCells, loadCells, loadCellsFrom]
  | some a =>
    obtain ⟨d', w', h1, h2, h3, _, _⟩ := run_append_own_at (P := Try.prog) (w := w) w.heap.size 40 o.type 21 Try.t21 (.int .i32 0) 1 4 i32T hi (by kernel_rfl) (by kernel_rfl) (by kernel_rfl) rfl (by omega) (.slice none 0 0) 0 [] (World.ownsRow_nil _ _ _ _)
      a l.length c (l.map fun z => .int .i32 z) (by simp) (fun j u hj => by
        rw [List.getElem?_map, Option.map_eq_some_iff] at hj
        obtain ⟨z, hz, rfl⟩ := hj
        have hjl : j < l.length := (List.getElem?_eq_some_iff.1 hz).1
        obtain ⟨_, b, oo, hA, _, _, hcell⟩ := hat j hjl
        obtain rfl := Option.some.inj hA
        have := hcell 0 (.int .i32 z) (by simp only [hz]; rfl)
        rw [add_addr]
        simpa using this) (by simp [Value.oneCell']) (by unfold maxLen; omega) (by omega) (Nat.le_refl _)
    refine ⟨d', w', by simp [execOp, ho, resolve, invoke, builtin, hx, hy, h1], ?_, (Below.refl w.heap.size w).grown h3 (Nat.le_refl _) (fun k hk => by simp [Value.ownBlock] at hk)⟩
    have h4 : w'.ownsRow w.heap.size 21 1 d' (0 + l.length) ([] ++ l.map fun z => .int .i32 z) := h2
    rw [Nat.zero_add] at h4
    exact h4
/-! ## rows of one's own -/
abbrev rowOf (r : ByteArray × List Int) (v : Value) : List Value := [.string r.1, v]
theorem rows_snoc {l : List (ByteArray × List Int)} {vs : List Value} {i : Nat} (hi : i < l.length) (hv : vs.length = i) (v : Value) : List.zipWith rowOf (l.take (i + 1)) (vs ++ [v]) = List.zipWith rowOf (l.take i) vs ++ [rowOf l[i] v] := by
  rw [List.take_add_one, List.getElem?_eq_getElem hi]
  rw [show (some l[i]).toList = [l[i]] from rfl, List.zipWith_append (by rw [List.length_take]; omega)]
  rfl
theorem ORep.of_rows {w : World} {base : Nat} {X : Nat → Prop} {d : Value} {l : List (ByteArray × List Int)} {vs : List Value} {e : TypeId} (hlen : vs.length = l.length) (hown : w.ownsRow base e 2 d l.length (List.zipWith rowOf l vs).flatten)
    (hv : ∀ (j : Nat) (v : Value) (r : ByteArray × List Int), vs[j]? = some v → l[j]? = some r → IOwn w base v r.2) (hw : ∀ r ∈ l, ∀ z ∈ r.2, IntKind.i32.wrap z = z) (hx : ∀ b, b < w.heap.size → base ≤ b → ¬ X b) : ORep w X d l := by
  have hrl : (List.zipWith rowOf l vs).length = l.length := by rw [List.length_zipWith]; omega
  have h2 := lies_of_own (rows := List.zipWith rowOf l vs) (m := 2) (e := e) (d := d) (X := X) (w := w) (base := base) (by rw [hrl]; exact hown) (fun r hr => by
    obtain ⟨j, hj⟩ := List.getElem?_of_mem hr
    rw [List.getElem?_zipWith] at hj
    split at hj
    · cases hj; rfl
    · cases hj) (by omega) hx
  rw [hrl] at h2
  obtain ⟨A, c, h3, h4, h5, h6⟩ := h2
  refine ⟨fun i => vs[i]?.getD undef, ⟨A, c, h3, h4, h5, fun i hi => ?_⟩, fun i r hr => ?_⟩
  · have h7 := h6 i hi
    have hvi : vs[i]? = some vs[i] := List.getElem?_eq_getElem (by omega)
    simp only [List.getElem?_zipWith, List.getElem?_eq_getElem hi, hvi] at h7
    simp only [List.getElem?_eq_getElem hi, hvi, Option.getD_some]
    exact h7
  · have hi := (List.getElem?_eq_some_iff.1 hr).1
    have hvi : vs[i]? = some vs[i] := List.getElem?_eq_getElem (by omega)
    simp only [hvi, Option.getD_some]
    exact ⟨PRep.of_own (hv i _ r hvi hr) hx, hw r (List.mem_of_getElem? hr)⟩
end Go.Proofs.Ythejiimocbfagaa
