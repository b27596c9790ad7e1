/-
  The laws' bound on what comes in: whatever it answers, it answers.
-/
import Derived.Test.YthejiimocbfagabGreatDoorSpecV
set_option linter.unusedVariables false
set_option linter.unusedSimpArgs false
namespace Go.Proofs.YthejiimocbfagabGreatDoor
open Go Go.RowKit Go.Proofs.Eng
set_option maxRecDepth 20000
set_option maxHeartbeats 4000000

theorem fits4 (w : World) (k : Int) (A : Option Addr) (n c : Nat) : Calls Tryz.prog 19 #[.agg #[.int .u32 k, .slice A n c]] w fun e w' => ∃ b, e = .returned (.bool b) ∧ Below w.heap.size w w' := by
  have c1 : cmp .gtr (n : Int) 2147483647 = some (decide ((n : Int) > 2147483647)) := rfl
  have hb := below1 w (.cells #[.int .u32 k, .slice A n c] 55)
  refine calls_wk (args := [.agg #[.int .u32 k, .slice A n c]]) Tryz.func19 rfl rfl ?_
  refine wk_seq ?_
  refine wk_reg (id := 0) ?_
  refine wk_box rfl rfl ?_
  refine wk_assign rfl rfl ?_
  refine wk_nil ?_
  refine wk_seq ?_
  refine wk_seq ?_
  refine wk_reg (id := 1) ?_
  refine wk_field (f := 1) (i := Tryz.t22) rfl Tryz.underlying55 rfl (by kernel_rfl) (by decide) rfl ?_
  refine wk_load rfl Tryz.underlying22 rfl (by exact cell_new rfl) rfl ?_
  refine wk_slen rfl Tryz.underlying22 rfl ?_
  refine wk_cmp rfl rfl (by with_reducible assumption) rfl ?_
  refine wk_nil ?_
  first
    | refine wk_load (v := .slice A n c) rfl Tryz.underlying22 rfl (cell_blk (heap_alloc_new w _) rfl) rfl ?_
    | skip
  skip
  refine wk_cond (b := decide ((n : Int) > 2147483647)) rfl (fun _ => ?_) (fun _ => ?_)
  · refine wk_seq ?_
    refine wk_reg (id := 2) ?_
    refine wk_assign rfl rfl ?_
    refine wk_nil ?_
    exact wk_ret r0 rfl rfl ⟨_, rfl, hb⟩
  · refine wk_skip ?_
    refine wk_seq ?_
    refine wk_reg (id := 3) ?_
    refine wk_assign rfl rfl ?_
    refine wk_nil ?_
    exact wk_ret r0 rfl rfl ⟨_, rfl, hb⟩
theorem fits3 (w : World) (X : Nat → Prop) (v : Value) (l : List (Nat × List UInt8)) (hU : URep w X v l) : Calls Tryz.prog 10 #[v] w fun e w' => ∃ b, e = .returned (.bool b) ∧ Below w.heap.size w w' := by
  obtain ⟨vals, ⟨A, c, rfl, hc, hnil, hat⟩, hvals⟩ := hU
  have c1 : cmp .gtr (l.length : Int) 2147483647 = some (decide ((l.length : Int) > 2147483647)) := rfl
  refine calls_wk (args := [.slice A l.length c]) Tryz.func10 rfl rfl ?_
  refine wk_seq ?_
  refine wk_reg (id := 0) ?_
  refine wk_assign rfl rfl ?_
  refine wk_nil ?_
  refine wk_seq ?_
  refine wk_seq ?_
  refine wk_reg (id := 1) ?_
  refine wk_move rfl rfl ?_
  refine wk_slen rfl Tryz.underlying24 rfl ?_
  refine wk_cmp rfl rfl (by with_reducible assumption) rfl ?_
  refine wk_nil ?_
  refine wk_cond (b := decide ((l.length : Int) > 2147483647)) rfl (fun _ => ?_) (fun h => ?_)
  · refine wk_seq ?_
    refine wk_reg (id := 2) ?_
    refine wk_assign rfl rfl ?_
    refine wk_nil ?_
    exact wk_ret r0 rfl rfl ⟨_, rfl, Below.refl _ _⟩
  have hl32 : l.length ≤ 2147483647 := by have := of_decide_eq_false h; omega
  refine wk_skip ?_
  refine wk_seq ?_
  refine wk_seq ?_
  refine wk_reg (id := 3) ?_
  refine wk_move rfl rfl ?_
  refine wk_slen rfl Tryz.underlying24 rfl ?_
  refine wk_move rfl rfl ?_
  refine wk_nil ?_
  refine wk_loop (fun i : Nat => [(8, .slice A l.length c), (9, .int .i64 (l.length : Int)), (10, .int .i64 (i : Int))]) (fun i w' => i ≤ l.length ∧ Below w.heap.size w w') (fun i => l.length - i) 0 rfl ⟨Nat.zero_le _, Below.refl _ _⟩ ?_
  rintro i w1 ⟨hi, hb⟩
  by_cases hlt : i < l.length
  · have c2 : cmp .lss (i : Int) (l.length : Int) = some true := by simp [cmp, hlt]
    have hnx : IntKind.i64.wrap ((i : Int) + 1) = ((i + 1 : Nat) : Int) := i64w ((i : Int) + 1) (by omega) (by omega)
    obtain ⟨t, ht⟩ : ∃ t, l[i]? = some t := ⟨_, List.getElem?_eq_getElem hlt⟩
    have hat' := hat i hlt
    simp only [ht] at hat'
    obtain ⟨_, b, o, rfl, hXb, hbl, hcell⟩ := hat'
    obtain ⟨hvr, hk32⟩ := hvals i t ht
    obtain ⟨A2, c2', hv2, _⟩ := hvr.form
    rw [hv2] at hcell
    have hcell2 : ∀ j u, [Value.int .u32 (t.1 : Int), .slice A2 t.2.length c2'][j]? = some u → w1.cell? ((⟨b, 0 + (o + i * 2), none⟩ : Addr).add j) = some u := fun j u hj => by
      rw [add_addr, Nat.zero_add]
      exact (World.cell?_of_block (a := ⟨b, o + i * 2 + j, none⟩) (hb.block b hbl)).trans (hcell j u hj)
    rw [Nat.zero_add] at hcell2
    refine wk_seq ?_
    refine wk_reg (id := 4) ?_
    refine wk_cmp rfl rfl (by with_reducible assumption) rfl ?_
    refine wk_nil ?_
    refine wk_seq ?_
    refine wk_condT rfl ?_
    refine wk_skip ?_
    refine wk_seq ?_
    refine wk_block ?_
    refine wk_seq ?_
    refine wk_reg (id := 5) ?_
    refine wk_idx (i := Tryz.t55) rfl rfl Tryz.underlying24 (by kernel_rfl) hlt rfl ?_
    refine wk_loadA (i := Tryz.t55) rfl Tryz.underlying55 rfl (by kernel_rfl) (vs := [.int .u32 (t.1 : Int), .slice A2 t.2.length c2']) rfl hcell2 rfl ?_
    refine wk_alloc (t := 55) (i := Tryz.t55) (by kernel_rfl) rfl rfl ?_
    refine wk_storeNew (i := Tryz.t55) (c' := #[.int .u32 (t.1 : Int), .slice A2 t.2.length c2']) rfl rfl (by kernel_rfl) rfl rfl (one2 rfl rfl) ?_
    have hb2 := hb.trans ((below1 w1 (.cells #[.int .u32 (t.1 : Int), .slice A2 t.2.length c2'] 55)).mono hb.size)
    refine wk_nil ?_
    refine wk_seq ?_
    refine wk_reg (id := 6) ?_
    refine wk_loadA (i := Tryz.t55) rfl Tryz.underlying55 rfl (by kernel_rfl) rfl (by exact cells_new) rfl ?_
    first
      | refine wk_loadA (i := Tryz.t55) rfl Tryz.underlying55 rfl (by kernel_rfl) (vs := [.int .u32 (t.1 : Int), .slice A2 t.2.length c2']) rfl (cells_blk (heap_alloc_new w1 _)) rfl ?_
      | skip
    skip
    refine wk_call Tryz.call19 (vs := [.agg #[.int .u32 (t.1 : Int), .slice A2 t.2.length c2']]) rfl rfl ((fits4 _ _ A2 _ c2').mono ?_)
    rintro e w3 ⟨b4, rfl, hb3⟩
    refine ⟨_, rfl, ?_⟩
    have hb03 := hb2.trans (hb3.mono hb2.size)
    refine wk_not rfl rfl ?_
    refine wk_nil ?_
    cases b4 with
    | true =>
      skip
      refine wk_condF rfl ?_
      refine wk_skip ?_
      refine wk_blockEnd ?_
      refine wk_reg (id := 8) ?_
      refine wk_add rfl rfl rfl ?_
      refine wk_move rfl rfl ?_
      refine wk_nil ?_
      exact wk_loopNext (i + 1) (by omega) (congrArg (fun z => [some (Value.slice (some ⟨b, o, none⟩) l.length c), some (Value.int .i64 (l.length : Int)), some (Value.int .i64 z)]) hnx) ⟨by omega, hb03⟩
    | false =>
      skip
      refine wk_condT rfl ?_
      refine wk_seq ?_
      refine wk_reg (id := 7) ?_
      refine wk_assign rfl rfl ?_
      refine wk_nil ?_
      exact wk_ret (rb (rl r0)) rfl rfl ⟨_, rfl, hb03⟩
  · have c2 : cmp .lss (i : Int) (l.length : Int) = some false := by simp [cmp]; omega
    refine wk_seq ?_
    refine wk_reg (id := 4) ?_
    refine wk_cmp rfl rfl (by with_reducible assumption) rfl ?_
    refine wk_nil ?_
    refine wk_seq ?_
    refine wk_condF rfl ?_
    refine wk_loopExit ?_
    refine wk_seq ?_
    refine wk_reg (id := 9) ?_
    refine wk_assign rfl rfl ?_
    refine wk_nil ?_
    exact wk_ret r0 rfl rfl ⟨_, rfl, hb⟩
theorem fits2 (w : World) (X : Nat → Prop) (vs : List Value) (t : Tree) (hT : TRep w X vs t) : Calls Tryz.prog 4 #[.agg vs.toArray] w fun e w' => ∃ b, e = .returned (.bool b) ∧ Below w.heap.size w w' := by
  obtain ⟨N, S, nl, L, U, v1, v2, v3, cells, hN, hS, hL, hUr, hr⟩ := hT
  obtain ⟨A1, k1, rfl, _⟩ := hS.form
  obtain ⟨A2, k2, rfl, _⟩ := hL
  have c1 : cmp .gtr (S.length : Int) 2147483647 = some (decide ((S.length : Int) > 2147483647)) := rfl
  have c2 : cmp .gtr (L.length : Int) 2147483647 = some (decide ((L.length : Int) > 2147483647)) := rfl
  have hb := below1 w (.cells #[.int .i64 N, .slice A1 S.length k1, .bool nl, .slice A2 L.length k2, v3] 26)
  have h1 := heap_alloc_new w (.cells #[.int .i64 N, .slice A1 S.length k1, .bool nl, .slice A2 L.length k2, v3] 26)
  refine calls_wk (args := [.agg #[.int .i64 N, .slice A1 S.length k1, .bool nl, .slice A2 L.length k2, v3]]) Tryz.func4 rfl rfl ?_
  refine wk_seq ?_
  refine wk_reg (id := 0) ?_
  refine wk_box rfl rfl ?_
  refine wk_assign rfl rfl ?_
  refine wk_nil ?_
  refine wk_seq ?_
  refine wk_seq ?_
  refine wk_reg (id := 1) ?_
  refine wk_field (f := 1) (i := Tryz.t22) rfl Tryz.underlying26 rfl (by kernel_rfl) (by decide) rfl ?_
  refine wk_load rfl Tryz.underlying22 rfl (by exact cell_new rfl) rfl ?_
  refine wk_slen rfl Tryz.underlying22 rfl ?_
  refine wk_cmp rfl rfl (by with_reducible assumption) rfl ?_
  refine wk_nil ?_
  first
    | refine wk_load (v := .slice A1 S.length k1) rfl Tryz.underlying22 rfl (cell_blk h1 rfl) rfl ?_
    | skip
  skip
  refine wk_cond (b := decide ((S.length : Int) > 2147483647)) rfl (fun _ => ?_) (fun _ => ?_)
  · refine wk_seq ?_
    refine wk_reg (id := 2) ?_
    refine wk_assign rfl rfl ?_
    refine wk_nil ?_
    exact wk_ret r0 rfl rfl ⟨_, rfl, hb⟩
  refine wk_skip ?_
  refine wk_seq ?_
  refine wk_seq ?_
  refine wk_reg (id := 3) ?_
  refine wk_field (f := 3) (i := Tryz.t23) rfl Tryz.underlying26 rfl (by kernel_rfl) (by decide) rfl ?_
  refine wk_load rfl Tryz.underlying23 rfl (by exact cell_new rfl) rfl ?_
  refine wk_slen rfl Tryz.underlying23 rfl ?_
  refine wk_cmp rfl rfl (by with_reducible assumption) rfl ?_
  refine wk_nil ?_
  first
    | refine wk_load (v := .slice A2 L.length k2) rfl Tryz.underlying23 rfl (cell_blk h1 rfl) rfl ?_
    | skip
  skip
  refine wk_cond (b := decide ((L.length : Int) > 2147483647)) rfl (fun _ => ?_) (fun _ => ?_)
  · refine wk_seq ?_
    refine wk_reg (id := 4) ?_
    refine wk_assign rfl rfl ?_
    refine wk_nil ?_
    exact wk_ret r0 rfl rfl ⟨_, rfl, hb⟩
  refine wk_skip ?_
  refine wk_seq ?_
  refine wk_seq ?_
  refine wk_reg (id := 5) ?_
  refine wk_field (f := 4) (i := Tryz.t24) rfl Tryz.underlying26 rfl (by kernel_rfl) (by decide) rfl ?_
  refine wk_load rfl Tryz.underlying24 rfl (by exact cell_new rfl) rfl ?_
  first
    | refine wk_load (v := v3) rfl Tryz.underlying24 rfl (cell_blk h1 rfl) rfl ?_
    | skip
  skip
  refine wk_call Tryz.call10 (vs := [v3]) rfl rfl ((fits3 _ X v3 U (hUr.keep (keeps_below hb (Nat.le_refl _)))).mono ?_)
  rintro e w3 ⟨b4, rfl, hb3⟩
  refine ⟨_, rfl, ?_⟩
  have hb03 := hb.trans (hb3.mono hb.size)
  refine wk_not rfl rfl ?_
  refine wk_nil ?_
  cases b4 with
  | true =>
    skip
    refine wk_condF rfl ?_
    refine wk_skip ?_
    refine wk_seq ?_
    refine wk_reg (id := 7) ?_
    refine wk_assign rfl rfl ?_
    refine wk_nil ?_
    exact wk_ret r0 rfl rfl ⟨_, rfl, hb03⟩
  | false =>
    skip
    refine wk_condT rfl ?_
    refine wk_seq ?_
    refine wk_reg (id := 6) ?_
    refine wk_assign rfl rfl ?_
    refine wk_nil ?_
    exact wk_ret r0 rfl rfl ⟨_, rfl, hb03⟩
end Go.Proofs.YthejiimocbfagabGreatDoor
