/-
  What a member says: that it holds nothing too long, and that it is short enough.
-/
import Derived.Test.YthejiimocbfagaaStk1
set_option linter.unusedVariables false
set_option linter.unusedSimpArgs false
namespace Go.Proofs.Ythejiimocbfagaa
open Go Go.RowKit Go.Proofs.Eng
set_option maxRecDepth 20000
set_option maxHeartbeats 4000000
theorem sumLe (M : Nat) : ∀ (l : List (ByteArray × List Int)), (∀ r ∈ l, r.2.length ≤ M) → (l.map fun r => r.2.length).sum ≤ l.length * M := by
  intro l
  induction l with
  | nil => intro _; simp
  | cons r l ih =>
    intro h
    have h1 := h r (by simp)
    have h2 := ih fun x hx => h x (by simp [hx])
    simp only [List.map_cons, List.sum_cons, List.length_cons, Nat.succ_mul]
    omega
/-- The thing at a place, as it lies. -/
theorem ORep.at {w w1 : World} {X : Nat → Prop} {A : Option Addr} {n c : Nat} {l : List (ByteArray × List Int)} {vals : Nat → Value} (hL : Lies w X (.slice A n c) l.length 2 (fun i => match l[i]? with | some r => [.string r.1, vals i] | none => []))
    (hb : Below w.heap.size w w1) {i : Nat} (hi : i < l.length) : n = l.length ∧ ∃ b o, A = some ⟨b, o, none⟩ ∧ ∀ j u, [Value.string l[i].1, vals i][j]? = some u → w1.cell? ((⟨b, o + i * 2, none⟩ : Addr).add j) = some u := by
  obtain ⟨A', c', h1, _, _, h4⟩ := hL
  simp only [Value.slice.injEq] at h1
  obtain ⟨rfl, rfl, rfl⟩ := h1
  obtain ⟨_, b, o, rfl, _, hbl, hc⟩ := h4 i hi
  refine ⟨rfl, b, o, rfl, fun j u hj => ?_⟩
  rw [add_addr]
  refine (World.cell?_of_block (a := ⟨b, o + i * 2 + j, none⟩) (hb.block b hbl)).trans (hc j u ?_)
  simp only [List.getElem?_eq_getElem hi]
  exact hj
theorem fits16 (w : World) (X : Nat → Prop) (s : ByteArray) (v : Value) (l : List Int) (hv : PRep w X v l) :
    Calls Try.prog 23 #[.agg #[.string s, v]] w fun e w' => e = .returned (.bool (decide (s.size ≤ 2147483647) && decide (l.length ≤ 2147483647))) ∧ Below w.heap.size w w' := by
  obtain ⟨A, c, rfl, _⟩ := hv
  have h1 := heap_alloc_new w (.cells #[.string s, .slice A l.length c] 42)
  have hb := below1 w (.cells #[.string s, .slice A l.length c] 42)
  have c1 := gtM s.size
  have c2 := gtM l.length
  refine calls_wk (args := [.agg #[.string s, .slice A l.length c]]) Try.func23 rfl rfl ?_
  refine wk_seq ?_
  refine wk_reg (id := 0) ?_
  refine wk_box rfl rfl ?_
  refine wk_assign rfl rfl ?_
  refine wk_nil ?_
  refine wk_seq ?_
  refine wk_seq ?_
  refine wk_reg (id := 1) ?_
  refine wk_field (f := 0) (i := Try.t9) rfl Try.underlying42 rfl (by kernel_rfl) (by decide) rfl ?_
  refine wk_load rfl Try.underlying9 rfl (by exact cell_new rfl) rfl ?_
  refine wk_strlen rfl Try.underlying9 rfl ?_
  refine wk_cmp rfl rfl (by with_reducible assumption) rfl ?_
  refine wk_nil ?_
  first
    | refine wk_load (v := .string s) rfl Try.underlying9 rfl (cell_blk h1 rfl) rfl ?_
    | skip
  skip
  refine wk_cond (b := decide ((s.size : Int) > 2147483647)) rfl (fun h => ?_) (fun h => ?_)
  · have h2 := of_decide_eq_true h
    refine wk_seq ?_
    refine wk_reg (id := 2) ?_
    refine wk_assign rfl rfl ?_
    refine wk_nil ?_
    exact wk_ret r0 rfl rfl ⟨by rw [decide_eq_false (by omega)]; rfl, hb⟩
  have h2 := of_decide_eq_false h
  refine wk_skip ?_
  refine wk_seq ?_
  refine wk_seq ?_
  refine wk_reg (id := 3) ?_
  refine wk_field (f := 1) (i := Try.t40) rfl Try.underlying42 rfl (by kernel_rfl) (by decide) rfl ?_
  refine wk_load rfl Try.underlying40 rfl (by exact cell_new rfl) rfl ?_
  refine wk_slen rfl Try.underlying40 rfl ?_
  refine wk_cmp rfl rfl (by with_reducible assumption) rfl ?_
  refine wk_nil ?_
  first
    | refine wk_load (v := .slice A l.length c) rfl Try.underlying40 rfl (cell_blk h1 rfl) rfl ?_
    | skip
  skip
  refine wk_cond (b := decide ((l.length : Int) > 2147483647)) rfl (fun h => ?_) (fun h => ?_)
  · have h3 := of_decide_eq_true h
    refine wk_seq ?_
    refine wk_reg (id := 4) ?_
    refine wk_assign rfl rfl ?_
    refine wk_nil ?_
    exact wk_ret r0 rfl rfl ⟨by rw [decide_eq_false (p := l.length ≤ 2147483647) (by omega), Bool.and_false], hb⟩
  · have h3 := of_decide_eq_false h
    refine wk_skip ?_
    refine wk_seq ?_
    refine wk_reg (id := 5) ?_
    refine wk_assign rfl rfl ?_
    refine wk_nil ?_
    exact wk_ret r0 rfl rfl ⟨by rw [decide_eq_true (by omega), decide_eq_true (by omega)]; rfl, hb⟩
theorem fits15 (w : World) (X : Nat → Prop) (v : Value) (l : List (ByteArray × List Int)) (hv : ORep w X v l) :
    Calls Try.prog 13 #[v] w fun e w' => ∃ b, e = .returned (.bool b) ∧ (b = true → l.length ≤ 2147483647 ∧ ∀ r ∈ l, r.1.size ≤ 2147483647 ∧ r.2.length ≤ 2147483647) ∧ Below w.heap.size w w' := by
  obtain ⟨vals, hL, hvals⟩ := hv
  obtain ⟨A, c, rfl, _⟩ := id hL
  have c1 := gtM l.length
  refine calls_wk (args := [.slice A l.length c]) Try.func13 rfl rfl ?_
  refine wk_seq ?_
  refine wk_reg (id := 0) ?_
  refine wk_assign rfl rfl ?_
  refine wk_nil ?_
  refine wk_seq ?_
  refine wk_seq ?_
  refine wk_reg (id := 1) ?_
  refine wk_move rfl rfl ?_
  refine wk_slen rfl Try.underlying23 rfl ?_
  refine wk_cmp rfl rfl (by with_reducible assumption) rfl ?_
  refine wk_nil ?_
  refine wk_cond (b := decide ((l.length : Int) > 2147483647)) rfl (fun _ => ?_) (fun h => ?_)
  · refine wk_seq ?_
    refine wk_reg (id := 2) ?_
    refine wk_assign rfl rfl ?_
    refine wk_nil ?_
    exact wk_ret r0 rfl rfl ⟨false, rfl, (fun h => by cases h), Below.refl _ _⟩
  have hl32 : l.length ≤ 2147483647 := by have := of_decide_eq_false h; omega
  refine wk_skip ?_
  refine wk_seq ?_
  refine wk_seq ?_
  refine wk_reg (id := 3) ?_
  refine wk_move rfl rfl ?_
  refine wk_slen rfl Try.underlying23 rfl ?_
  refine wk_move rfl rfl ?_
  refine wk_nil ?_
  refine wk_loop (fun i : Nat => [(8, .slice A l.length c), (9, .int .i64 (l.length : Int)), (10, .int .i64 (i : Int))]) (fun i w' => i ≤ l.length ∧ (∀ r ∈ l.take i, r.1.size ≤ 2147483647 ∧ r.2.length ≤ 2147483647) ∧ Below w.heap.size w w') (fun i => l.length - i) 0 rfl ⟨Nat.zero_le _, by simp, Below.refl _ _⟩ ?_
  rintro i w1 ⟨hi, hall, hb⟩
  by_cases hlt : i < l.length
  · have c2 : cmp .lss (i : Int) (l.length : Int) = some true := by simp [cmp, hlt]
    have hnx : IntKind.i64.wrap ((i : Int) + 1) = ((i + 1 : Nat) : Int) := i64w ((i : Int) + 1) (by omega) (by omega)
    obtain ⟨_, b, o, rfl, hcell⟩ := ORep.at hL hb hlt
    have hvr := (hvals i _ (List.getElem?_eq_getElem hlt)).1
    have hone : (vals i).oneCell' = true := by obtain ⟨A2, c2', h, _⟩ := hvr; rw [h]; rfl
    refine wk_seq ?_
    refine wk_reg (id := 4) ?_
    refine wk_cmp rfl rfl (by with_reducible assumption) rfl ?_
    refine wk_nil ?_
    refine wk_seq ?_
    refine wk_condT rfl ?_
    refine wk_skip ?_
    refine wk_seq ?_
    refine wk_block ?_
    refine wk_seq ?_
    refine wk_reg (id := 5) ?_
    refine wk_idx (i := Try.t42) rfl rfl Try.underlying23 (by kernel_rfl) hlt rfl ?_
    refine wk_loadA (i := Try.t42) rfl Try.underlying42 rfl (by kernel_rfl) (vs := [.string l[i].1, vals i]) rfl hcell rfl ?_
    refine wk_alloc (t := 42) (i := Try.t42) (by kernel_rfl) rfl rfl ?_
    refine wk_storeNew (i := Try.t42) (c' := #[.string l[i].1, vals i]) rfl rfl (by kernel_rfl) rfl rfl (one2 rfl hone) ?_
    have hb2 := hb.trans ((below1 w1 (.cells #[.string l[i].1, vals i] 42)).mono hb.size)
    refine wk_nil ?_
    refine wk_seq ?_
    refine wk_reg (id := 6) ?_
    refine wk_loadA (i := Try.t42) rfl Try.underlying42 rfl (by kernel_rfl) rfl (by exact cells_new) rfl ?_
    first
      | refine wk_loadA (i := Try.t42) rfl Try.underlying42 rfl (by kernel_rfl) (vs := [.string l[i].1, vals i]) rfl (cells_blk (heap_alloc_new w1 _)) rfl ?_
      | skip
    skip
    obtain ⟨bf, hbf⟩ : ∃ bf, bf = (decide (l[i].1.size ≤ 2147483647) && decide (l[i].2.length ≤ 2147483647)) := ⟨_, rfl⟩
    refine wk_call Try.call23 (vs := [.agg #[.string l[i].1, vals i]]) rfl rfl ((fits16 _ X l[i].1 (vals i) l[i].2 (hvr.keep (keeps_below hb2 (Nat.le_refl _)))).mono ?_)
    rintro e w3 ⟨he, hb3⟩
    rw [← hbf] at he
    subst he
    refine ⟨_, rfl, ?_⟩
    have hb03 := hb2.trans (hb3.mono hb2.size)
    refine wk_not rfl rfl ?_
    refine wk_nil ?_
    cases bf with
    | true =>
      have h4 : l[i].1.size ≤ 2147483647 ∧ l[i].2.length ≤ 2147483647 := by simpa using hbf.symm
      refine wk_condF rfl ?_
      refine wk_skip ?_
      refine wk_blockEnd ?_
      refine wk_reg (id := 8) ?_
      refine wk_add rfl rfl rfl ?_
      refine wk_move rfl rfl ?_
      refine wk_nil ?_
      refine wk_loopNext (i + 1) (by omega) (congrArg (fun z => [some (Value.slice (some ⟨b, o, none⟩) l.length c), some (Value.int .i64 (l.length : Int)), some (Value.int .i64 z)]) hnx) ⟨by omega, ?_, hb03⟩
      intro r hr
      rw [List.take_add_one, List.getElem?_eq_getElem hlt] at hr
      rcases List.mem_append.1 hr with h5 | h5
      · exact hall r h5
      · obtain rfl : r = l[i] := by simpa using h5
        exact h4
    | false =>
      refine wk_condT rfl ?_
      refine wk_seq ?_
      refine wk_reg (id := 7) ?_
      refine wk_assign rfl rfl ?_
      refine wk_nil ?_
      exact wk_ret (rb (rl r0)) rfl rfl ⟨false, rfl, (fun h => by cases h), hb03⟩
  · have c2 : cmp .lss (i : Int) (l.length : Int) = some false := by simp [cmp]; omega
    refine wk_seq ?_
    refine wk_reg (id := 4) ?_
    refine wk_cmp rfl rfl (by with_reducible assumption) rfl ?_
    refine wk_nil ?_
    refine wk_seq ?_
    refine wk_condF rfl ?_
    refine wk_loopExit ?_
    refine wk_seq ?_
    refine wk_reg (id := 9) ?_
    refine wk_assign rfl rfl ?_
    refine wk_nil ?_
    exact wk_ret r0 rfl rfl ⟨true, rfl, (fun _ => ⟨hl32, by rwa [List.take_of_length_le (by omega)] at hall⟩), hb⟩
theorem fits14 (w : World) (X : Nat → Prop) (v : Value) (l : List (ByteArray × List Int)) (g : Int) (hv : ORep w X v l) :
    Calls Try.prog 5 #[.agg #[v, .int .i32 g]] w fun e w' => ∃ b, e = .returned (.bool b) ∧ (b = true → l.length ≤ 2147483647 ∧ ∀ r ∈ l, r.1.size ≤ 2147483647 ∧ r.2.length ≤ 2147483647) ∧ Below w.heap.size w w' := by
  obtain ⟨A, c, rfl⟩ : ∃ A c, v = .slice A l.length c := by obtain ⟨_, ⟨A, c, h, _⟩, _⟩ := hv; exact ⟨A, c, h⟩
  have h1 := heap_alloc_new w (.cells #[.slice A l.length c, .int .i32 g] 25)
  have hb := below1 w (.cells #[.slice A l.length c, .int .i32 g] 25)
  refine calls_wk (args := [.agg #[.slice A l.length c, .int .i32 g]]) Try.func5 rfl rfl ?_
  refine wk_seq ?_
  refine wk_reg (id := 0) ?_
  refine wk_box rfl rfl ?_
  refine wk_assign rfl rfl ?_
  refine wk_nil ?_
  refine wk_seq ?_
  refine wk_seq ?_
  refine wk_reg (id := 1) ?_
  refine wk_field (f := 0) (i := Try.t23) rfl Try.underlying25 rfl (by kernel_rfl) (by decide) rfl ?_
  refine wk_load rfl Try.underlying23 rfl (by exact cell_new rfl) rfl ?_
  first
    | refine wk_load (v := .slice A l.length c) rfl Try.underlying23 rfl (cell_blk h1 rfl) rfl ?_
    | skip
  skip
  refine wk_call Try.call13 (vs := [.slice A l.length c]) rfl rfl ((fits15 _ X _ l (hv.keep (keeps_below hb (Nat.le_refl _)))).mono ?_)
  rintro e w3 ⟨b, rfl, hbb, hb3⟩
  refine ⟨_, rfl, ?_⟩
  have hb03 := hb.trans (hb3.mono hb.size)
  refine wk_not rfl rfl ?_
  refine wk_nil ?_
  cases b with
  | true =>
    skip
    refine wk_condF rfl ?_
    refine wk_skip ?_
    refine wk_seq ?_
    refine wk_reg (id := 3) ?_
    refine wk_assign rfl rfl ?_
    refine wk_nil ?_
    exact wk_ret r0 rfl rfl ⟨true, rfl, hbb, hb03⟩
  | false =>
    skip
    refine wk_condT rfl ?_
    refine wk_seq ?_
    refine wk_reg (id := 2) ?_
    refine wk_assign rfl rfl ?_
    refine wk_nil ?_
    exact wk_ret r0 rfl rfl ⟨false, rfl, (fun h => by cases h), hb03⟩
end Go.Proofs.Ythejiimocbfagaa
