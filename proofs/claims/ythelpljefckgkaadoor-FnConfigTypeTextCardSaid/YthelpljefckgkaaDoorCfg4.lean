/-
  FnConfigTypeText walked.
-/
import Derived.Test.YthelpljefckgkaaDoorCfg3
import Derived.WalkKit
set_option linter.unusedVariables false
set_option linter.unusedSimpArgs false
namespace Go.Proofs.YthelpljefckgkaaDoor
open Go Go.RowKit Go.Proofs.Eng
set_option maxRecDepth 20000
set_option maxHeartbeats 4000000
theorem mixed' : Tryd.prog.follows .mixedOrders = true := by kernel_rfl
theorem c_Text (w : World) (i : Nat) (hi : i < 9) : Calls Tryd.prog 6 #[.int .i8 ((i + 1 : Nat) : Int)] w fun e w' => ∃ d, e = .returned (.tuple #[d, .bool true]) ∧ BytesRep w' (fun _ => False) d (up i).data.toList ∧ Below w.heap.size w w' := by
  obtain ⟨h1, h2, _⟩ := up_facts i hi
  have hss : (up i).data.toList.length = (up i).size := by rw [Array.length_toList]; rfl
  refine calls_wk (args := [.int .i8 ((i + 1 : Nat) : Int)]) Tryd.func6 rfl rfl ?_
  refine wk_seq ?_
  refine wk_reg (id := 0) ?_
  refine wk_assign rfl rfl ?_
  refine wk_assign rfl rfl ?_
  refine wk_nil ?_
  refine wk_seq ?_
  refine wk_reg (id := 1) ?_
  refine wk_move rfl rfl ?_
  refine wk_call Tryd.call10 (vs := [.int .i8 ((i + 1 : Nat) : Int)]) rfl rfl ((c_Marshal w i hi).mono ?_)
  rintro e w1 ⟨d1, rfl, hr1, hb1⟩
  refine ⟨_, rfl, ?_⟩
  refine wk_move rfl rfl ?_
  refine wk_extract rfl rfl rfl ?_
  refine wk_extract rfl rfl rfl ?_
  refine wk_assign rfl rfl ?_
  refine wk_assign rfl rfl ?_
  refine wk_nil ?_
  refine wk_seq ?_
  refine wk_draw (fun _ => True) [(0, true), (2, true), (3, true), (1, false), (4, true), (5, true)] mixed' pq0 (by kernel_rfl) (by kernel_rfl) (by kernel_rfl) (fun _ _ _ => trivial) ?_
  intro w2 h2w hb2
  have hb02 := hb1.trans (hb2.mono hb1.size)
  have hr2 : BytesRep0 w2 (fun _ => False) d1 (up i).data.toList := BytesRep0.keep (.inr hr1) (keeps_below hb2 (Nat.le_refl _))
  refine wd_move rfl rfl rfl ?_
  refine wd_move rfl rfl rfl ?_
  refine wd_val (v := .bool true) rfl (fun _ ha _ _ => run_nileq rfl Tryd.underlying38 (ha.ev rfl) (ha.ev rfl)) rfl ?_
  refine wd_append (R := fun d' w' => Own w' w2.heap.size 5 d' ([] ++ (up i).data.toList) ∧ Below w2.heap.size w2 w') rfl rfl rfl (fun ρ oo hop hx hy => by
    obtain ⟨d', w', a1, a2, a3⟩ := app_rep byteT hr2 (own_nil w2 w2.heap.size 5) (Nat.le_refl _) (by rw [hss, lim_eq]; simp only [List.length_nil]; omega) ρ oo hop hx hy
    exact ⟨d', w', a1, trivial, a2, a3⟩) rfl ?_
  rintro d3 w3 ⟨ho3, hb3⟩
  refine wd_assign rfl rfl rfl ?_
  refine wd_assign rfl rfl rfl ?_
  refine wd_done ?_
  skip
  refine wk_ret2 r0 rfl rfl rfl ⟨d3, rfl, ?_, hb02.trans (hb3.mono hb02.size)⟩
  rcases (OwnC.of_own ho3).bytes (Y := fun _ => False) (fun _ _ _ h => h) with ⟨_, h3⟩ | h3
  · have h4 := congrArg List.length h3
    simp only [List.nil_append, hss, List.length_nil] at h4
    omega
  · exact h3
theorem c_StringI (w : World) (i : Nat) (hi : i < 9) : Calls Tryd.prog 7 #[.int .i8 ((i + 1 : Nat) : Int)] w fun e w' => e = .returned (.string (up i)) ∧ w' = w := by
  refine calls_wk (args := [.int .i8 ((i + 1 : Nat) : Int)]) Tryd.func7 rfl rfl ?_
  refine wk_seq ?_
  refine wk_reg (id := 0) ?_
  refine wk_assign rfl rfl ?_
  refine wk_nil ?_
  refine wk_seq ?_
  refine wk_reg (id := 1) ?_
  refine wk_move rfl rfl ?_
  refine wk_call Tryd.call11 (vs := [.int .i8 ((i + 1 : Nat) : Int)]) rfl rfl ((c_String w i hi).mono ?_)
  rintro e w1 ⟨rfl, rfl⟩
  refine ⟨_, rfl, ?_⟩
  refine wk_assign rfl rfl ?_
  refine wk_nil ?_
  exact wk_ret r0 rfl rfl ⟨rfl, rfl⟩
def nmC : Array Value := #[.int .i64 1, .string ⟨#[66, 79, 79, 76, 69, 65, 78]⟩, .int .i64 2, .string ⟨#[83, 84, 82, 73, 78, 71]⟩, .int .i64 3, .string ⟨#[73, 78, 84]⟩, .int .i64 4, .string ⟨#[83, 72, 79, 82, 84]⟩, .int .i64 5, .string ⟨#[76, 79, 78, 71]⟩, .int .i64 6, .string ⟨#[68, 79, 85, 66, 76, 69]⟩, .int .i64 7, .string ⟨#[76, 73, 83, 84]⟩, .int .i64 8, .string ⟨#[67, 76, 65, 83, 83]⟩, .int .i64 9, .string ⟨#[80, 65, 83, 83, 87, 79, 82, 68]⟩]
theorem nm_at (i : Nat) (hi : i < 9) : ∀ (j : Nat) (u : Value), [Value.int .i64 ((i + 1 : Nat) : Int), .string (up i)][j]? = some u → nmC[i * 2 + j]? = some u := by
  have h : i = 0 ∨ i = 1 ∨ i = 2 ∨ i = 3 ∨ i = 4 ∨ i = 5 ∨ i = 6 ∨ i = 7 ∨ i = 8 := by omega
  intro j u hj
  match j, hj with
  | 0, hj => rcases h with rfl | rfl | rfl | rfl | rfl | rfl | rfl | rfl | rfl <;> exact hj
  | 1, hj => rcases h with rfl | rfl | rfl | rfl | rfl | rfl | rfl | rfl | rfl <;> exact hj
  | j + 2, hj => simp at hj
theorem c_Names (w : World) : Calls Tryd.prog 5 #[] w fun e w' => e = .returned (.slice (some ⟨w.heap.size, 0, none⟩) 9 9) ∧ w'.heap[w.heap.size]? = some (.cells nmC 36 (0, 0)) ∧ Below w.heap.size w w' := by
  refine calls_wk (args := []) Tryd.func5 rfl rfl ?_
  refine wk_seq ?_
  refine wk_reg (id := 0) ?_
  refine wk_assign rfl rfl ?_
  refine wk_nil ?_
  refine wk_seq ?_
  refine wk_reg (id := 1) ?_
  refine wk_build (vs := [(0, .int .i64 1), (1, .string ⟨#[66, 79, 79, 76, 69, 65, 78]⟩)]) (cells := #[.int .i64 1, .string ⟨#[66, 79, 79, 76, 69, 65, 78]⟩]) rfl (by kernel_rfl) rfl ?_
  refine wk_build (vs := [(0, .int .i64 2), (1, .string ⟨#[83, 84, 82, 73, 78, 71]⟩)]) (cells := #[.int .i64 2, .string ⟨#[83, 84, 82, 73, 78, 71]⟩]) rfl (by kernel_rfl) rfl ?_
  refine wk_build (vs := [(0, .int .i64 3), (1, .string ⟨#[73, 78, 84]⟩)]) (cells := #[.int .i64 3, .string ⟨#[73, 78, 84]⟩]) rfl (by kernel_rfl) rfl ?_
  refine wk_build (vs := [(0, .int .i64 4), (1, .string ⟨#[83, 72, 79, 82, 84]⟩)]) (cells := #[.int .i64 4, .string ⟨#[83, 72, 79, 82, 84]⟩]) rfl (by kernel_rfl) rfl ?_
  refine wk_build (vs := [(0, .int .i64 5), (1, .string ⟨#[76, 79, 78, 71]⟩)]) (cells := #[.int .i64 5, .string ⟨#[76, 79, 78, 71]⟩]) rfl (by kernel_rfl) rfl ?_
  refine wk_build (vs := [(0, .int .i64 6), (1, .string ⟨#[68, 79, 85, 66, 76, 69]⟩)]) (cells := #[.int .i64 6, .string ⟨#[68, 79, 85, 66, 76, 69]⟩]) rfl (by kernel_rfl) rfl ?_
  refine wk_build (vs := [(0, .int .i64 7), (1, .string ⟨#[76, 73, 83, 84]⟩)]) (cells := #[.int .i64 7, .string ⟨#[76, 73, 83, 84]⟩]) rfl (by kernel_rfl) rfl ?_
  refine wk_build (vs := [(0, .int .i64 8), (1, .string ⟨#[67, 76, 65, 83, 83]⟩)]) (cells := #[.int .i64 8, .string ⟨#[67, 76, 65, 83, 83]⟩]) rfl (by kernel_rfl) rfl ?_
  refine wk_build (vs := [(0, .int .i64 9), (1, .string ⟨#[80, 65, 83, 83, 87, 79, 82, 68]⟩)]) (cells := #[.int .i64 9, .string ⟨#[80, 65, 83, 83, 87, 79, 82, 68]⟩]) rfl (by kernel_rfl) rfl ?_
  refine wk_buildS (e := 36) (vs := [(0, .agg #[.int .i64 1, .string ⟨#[66, 79, 79, 76, 69, 65, 78]⟩]), (1, .agg #[.int .i64 2, .string ⟨#[83, 84, 82, 73, 78, 71]⟩]), (2, .agg #[.int .i64 3, .string ⟨#[73, 78, 84]⟩]), (3, .agg #[.int .i64 4, .string ⟨#[83, 72, 79, 82, 84]⟩]), (4, .agg #[.int .i64 5, .string ⟨#[76, 79, 78, 71]⟩]), (5, .agg #[.int .i64 6, .string ⟨#[68, 79, 85, 66, 76, 69]⟩]), (6, .agg #[.int .i64 7, .string ⟨#[76, 73, 83, 84]⟩]), (7, .agg #[.int .i64 8, .string ⟨#[67, 76, 65, 83, 83]⟩]), (8, .agg #[.int .i64 9, .string ⟨#[80, 65, 83, 83, 87, 79, 82, 68]⟩])]) (cells := nmC) (ie := Tryd.t36) (zv := .agg #[.int .i64 0, .string ⟨#[]⟩]) rfl Tryd.underlying25 (by kernel_rfl) rfl rfl rfl (by kernel_rfl) rfl ?_
  refine wk_assign rfl rfl ?_
  refine wk_nil ?_
  exact wk_ret r0 rfl rfl ⟨rfl, heap_alloc_last _ _, below1 _ _⟩
theorem c_Word (w : World) (b : Nat) (n : Int) (hb : w.heap[b]? = some (.cells nmC 36 (0, 0))) :
    Calls Tryd.prog 4 #[.slice (some ⟨b, 0, none⟩) 9 9, .int .i64 n] w fun e w' => ∃ s f, e = .returned (.tuple #[.string s, .bool f]) ∧ ((∃ i, i < 9 ∧ n = ((i + 1 : Nat) : Int) ∧ s = up i ∧ f = true) ∨ ((∀ i, i < 9 → n ≠ ((i + 1 : Nat) : Int)) ∧ f = false)) ∧ Below w.heap.size w w' := by
  have hlt0 := lt_of_some hb
  refine calls_wk (args := [.slice (some ⟨b, 0, none⟩) 9 9, .int .i64 n]) Tryd.func4 rfl rfl ?_
  refine wk_seq ?_
  refine wk_reg (id := 0) ?_
  refine wk_assign rfl rfl ?_
  refine wk_assign rfl rfl ?_
  refine wk_nil ?_
  refine wk_seq ?_
  refine wk_seq ?_
  refine wk_reg (id := 1) ?_
  refine wk_move rfl rfl ?_
  refine wk_slen rfl Tryd.underlying25 rfl ?_
  refine wk_move rfl rfl ?_
  refine wk_nil ?_
  refine wk_loop (fun i : Nat => [(1, .int .i64 n), (8, .slice (some ⟨b, 0, none⟩) 9 9), (9, .int .i64 9), (10, .int .i64 (i : Int))]) (fun i w' => i ≤ 9 ∧ (∀ j, j < i → n ≠ ((j + 1 : Nat) : Int)) ∧ Below w.heap.size w w') (fun i => 9 - i) 0 rfl ⟨Nat.zero_le _, (fun j h => by omega), Below.refl _ _⟩ ?_
  rintro i w1 ⟨hi, hne, hb1⟩
  by_cases hlt : i < 9
  · have c1 : cmp .lss (i : Int) 9 = some true := by simp [cmp]; omega
    have hnx : IntKind.i64.wrap ((i : Int) + 1) = ((i + 1 : Nat) : Int) := i64w ((i : Int) + 1) (by omega) (by omega)
    have hbw := (hb1.block b hlt0).trans hb
    refine wk_seq ?_
    refine wk_reg (id := 2) ?_
    refine wk_cmp rfl rfl (by with_reducible assumption) rfl ?_
    refine wk_nil ?_
    refine wk_seq ?_
    refine wk_condT rfl ?_
    refine wk_skip ?_
    refine wk_seq ?_
    refine wk_block ?_
    refine wk_seq ?_
    refine wk_reg (id := 3) ?_
    refine wk_idx (i := Tryd.t36) rfl rfl Tryd.underlying25 (by kernel_rfl) hlt rfl ?_
    refine wk_loadA (i := Tryd.t36) rfl Tryd.underlying36 rfl (by kernel_rfl) (vs := [.int .i64 ((i + 1 : Nat) : Int), .string (up i)]) rfl (fun j u hj => by
      rw [add_addr]
      refine cell_blk hbw ?_
      have h3 := nm_at i hlt j u hj
      rw [← Array.getElem?_toList] at h3
      rw [Nat.zero_add]
      exact h3) rfl ?_
    refine wk_alloc (t := 36) (i := Tryd.t36) (by kernel_rfl) rfl rfl ?_
    refine wk_storeNew (i := Tryd.t36) (c' := #[.int .i64 ((i + 1 : Nat) : Int), .string (up i)]) rfl rfl (by kernel_rfl) rfl rfl (one2 rfl rfl) ?_
    have hG := heap_alloc_new w1 (.cells #[.int .i64 ((i + 1 : Nat) : Int), .string (up i)] 36)
    have hbG := hb1.trans ((below1 w1 (.cells #[.int .i64 ((i + 1 : Nat) : Int), .string (up i)] 36)).mono hb1.size)
    by_cases hni : n = ((i + 1 : Nat) : Int)
    · subst hni
      have c2 : cmp .eql ((i + 1 : Nat) : Int) ((i + 1 : Nat) : Int) = some true := by simp [cmp]
      refine wk_nil ?_
      refine wk_seq ?_
      refine wk_reg (id := 4) ?_
      refine wk_field (f := 0) (i := Tryd.t3) rfl Tryd.underlying36 rfl (by kernel_rfl) (by decide) rfl ?_
      refine wk_load rfl Tryd.underlying3 rfl (by exact cell_blk (by with_reducible assumption) rfl) rfl ?_
      refine wk_move rfl rfl ?_
      refine wk_cmp rfl rfl (by with_reducible assumption) rfl ?_
      refine wk_nil ?_
      first
        | refine wk_load (v := .int .i64 ((i + 1 : Nat) : Int)) rfl Tryd.underlying3 rfl (cell_blk hG rfl) rfl ?_
        | skip
      skip
      refine wk_condT rfl ?_
      refine wk_seq ?_
      refine wk_reg (id := 5) ?_
      refine wk_field (f := 1) (i := Tryd.t9) rfl Tryd.underlying36 rfl (by kernel_rfl) (by decide) rfl ?_
      refine wk_load rfl Tryd.underlying9 rfl (by exact cell_blk (by with_reducible assumption) rfl) rfl ?_
      refine wk_assign rfl rfl ?_
      refine wk_assign rfl rfl ?_
      refine wk_nil ?_
      first
        | refine wk_load (v := .string (up i)) rfl Tryd.underlying9 rfl (cell_blk hG rfl) rfl ?_
        | skip
      skip
      exact wk_ret2 (rb (rl r0)) rfl rfl rfl ⟨_, _, rfl, .inl ⟨i, hlt, rfl, rfl, rfl⟩, hbG⟩
    · have c2 : cmp .eql ((i + 1 : Nat) : Int) n = some false := by
        simp only [cmp, Option.some.injEq, beq_eq_false_iff_ne, ne_eq]
        exact fun e => hni e.symm
      refine wk_nil ?_
      refine wk_seq ?_
      refine wk_reg (id := 4) ?_
      refine wk_field (f := 0) (i := Tryd.t3) rfl Tryd.underlying36 rfl (by kernel_rfl) (by decide) rfl ?_
      refine wk_load rfl Tryd.underlying3 rfl (by exact cell_blk (by with_reducible assumption) rfl) rfl ?_
      refine wk_move rfl rfl ?_
      refine wk_cmp rfl rfl (by with_reducible assumption) rfl ?_
      refine wk_nil ?_
      first
        | refine wk_load (v := .int .i64 ((i + 1 : Nat) : Int)) rfl Tryd.underlying3 rfl (cell_blk hG rfl) rfl ?_
        | skip
      skip
      refine wk_condF rfl ?_
      refine wk_skip ?_
      refine wk_blockEnd ?_
      refine wk_reg (id := 6) ?_
      refine wk_add rfl rfl rfl ?_
      refine wk_move rfl rfl ?_
      refine wk_nil ?_
      exact wk_loopNext (i + 1) (by omega) (congrArg (fun z => [some (Value.int .i64 n), some (Value.slice (some ⟨b, 0, none⟩) 9 9), some (Value.int .i64 9), some (Value.int .i64 z)]) hnx) ⟨by omega, (fun j hj => by
        rcases Nat.lt_or_ge j i with h | h
        · exact hne j h
        · obtain rfl : j = i := by omega
          exact hni), hbG⟩
  · obtain rfl : i = 9 := by omega
    have c1 : cmp .lss ((9 : Nat) : Int) 9 = some false := rfl
    refine wk_seq ?_
    refine wk_reg (id := 2) ?_
    refine wk_cmp rfl rfl (by with_reducible assumption) rfl ?_
    refine wk_nil ?_
    refine wk_seq ?_
    refine wk_condF rfl ?_
    refine wk_loopExit ?_
    refine wk_seq ?_
    refine wk_reg (id := 7) ?_
    refine wk_assign rfl rfl ?_
    refine wk_assign rfl rfl ?_
    refine wk_nil ?_
    exact wk_ret2 r0 rfl rfl rfl ⟨_, _, rfl, .inr ⟨hne, rfl⟩, hb1⟩
theorem walk_ConfigTypeText (w : World) (n : Int) (w0 : (Lit.int .i8 n).wf = true) (ht : Tab w) : Calls Tryd.prog 3 #[.int .i8 n] w fun e w' => e = .returned (.bool true) ∧ Below w.heap.size w w' := by
  have hn8 : -128 ≤ n ∧ n ≤ 127 := by
    simp only [Lit.wf, Bool.and_eq_true, decide_eq_true_eq] at w0
    have h1 := w0.1
    have h2 := w0.2
    simp [IntKind.min, IntKind.max, IntKind.bits, IntKind.signed] at h1 h2
    omega
  have e0 : IntKind.i64.wrap n = n := i64w n (by omega) (by omega)
  refine calls_wk (args := [.int .i8 n]) Tryd.func3 rfl rfl ?_
  refine wk_seq ?_
  refine wk_reg (id := 0) ?_
  refine wk_assign rfl rfl ?_
  refine wk_nil ?_
  refine wk_seq ?_
  refine wk_reg (id := 1) ?_
  refine wk_call Tryd.call5 (vs := []) rfl rfl ((c_Names w).mono ?_)
  rintro e w1 ⟨rfl, hN, hb1⟩
  refine ⟨_, rfl, ?_⟩
  refine wk_move rfl rfl ?_
  first
    | refine wk_convV rfl Tryd.underlying22 Tryd.underlying3 e0 rfl ?_
    | skip
  skip
  refine wk_call Tryd.call4 (vs := [.slice (some ⟨w.heap.size, 0, none⟩) 9 9, .int .i64 n]) rfl rfl ((c_Word w1 w.heap.size n hN).mono ?_)
  rintro e w2 ⟨s, f, rfl, hsf, hb2⟩
  refine ⟨_, rfl, ?_⟩
  have hb02 := hb1.trans (hb2.mono hb1.size)
  refine wk_move rfl rfl ?_
  refine wk_extract rfl rfl rfl ?_
  refine wk_extract rfl rfl rfl ?_
  refine wk_assign rfl rfl ?_
  refine wk_assign rfl rfl ?_
  refine wk_nil ?_
  refine wk_seq ?_
  refine wk_seq ?_
  refine wk_reg (id := 2) ?_
  refine wk_move rfl rfl ?_
  refine wk_not rfl rfl ?_
  refine wk_nil ?_
  rcases hsf with ⟨i, hi, rfl, rfl, rfl⟩ | ⟨_, rfl⟩
  · have ceq : cmp .eql ((i + 1 : Nat) : Int) ((i + 1 : Nat) : Int) = some true := by simp [cmp]
    refine wk_condF rfl ?_
    refine wk_skip ?_
    refine wk_seq ?_
    refine wk_reg (id := 4) ?_
    refine wk_move rfl rfl ?_
    refine wk_call Tryd.call6 (vs := [.int .i8 ((i + 1 : Nat) : Int)]) rfl rfl ((c_Text w2 i hi).mono ?_)
    rintro e w3 ⟨d3, rfl, hr3, hb3⟩
    refine ⟨_, rfl, ?_⟩
    have hb03 := hb02.trans (hb3.mono hb02.size)
    refine wk_move rfl rfl ?_
    refine wk_extract rfl rfl rfl ?_
    refine wk_extract rfl rfl rfl ?_
    refine wk_assign rfl rfl ?_
    refine wk_assign rfl rfl ?_
    refine wk_nil ?_
    refine wk_seq ?_
    refine wk_seq ?_
    refine wk_reg (id := 5) ?_
    refine wk_move rfl rfl ?_
    refine wk_not rfl rfl ?_
    refine wk_move rfl rfl ?_
    refine wk_gT rfl ?_; refine wk_move rfl rfl ?_
    refine wk_gT rfl ?_
    refine wk_call Tryd.call7 (vs := [.int .i8 ((i + 1 : Nat) : Int)]) rfl rfl ((c_StringI w3 i hi).mono ?_)
    rintro e w4 ⟨rfl, rfl⟩
    refine ⟨_, rfl, ?_⟩
    refine wk_gT rfl ?_; refine wk_move rfl rfl ?_
    first
      | refine wk_gT rfl ?_
      | skip
    refine wk_strne (b := true) rfl rfl (beq_self_eq_true _) rfl ?_
    refine wk_pick rfl rfl rfl rfl ?_
    refine wk_move rfl rfl ?_
    refine wk_gT rfl ?_; refine wk_move rfl rfl ?_
    first
      | refine wk_gT rfl ?_
      | skip
    refine wk_bstr (X := fun _ => False) (s := some (up i).data.toList) rfl Tryd.underlying27 Tryd.underlying5 Tryd.underlying9 hr3 rfl ?_
    intro s5 hs5
    have e1 : s5 = up i := by
      have h2 : s5.data = (up i).data := Array.toList_inj.1 hs5
      cases s5
      generalize up i = u at h2 ⊢
      cases u
      simp_all
    subst e1
    refine wk_gT rfl ?_; refine wk_move rfl rfl ?_
    first
      | refine wk_gT rfl ?_
      | skip
    refine wk_strne (b := true) rfl rfl (beq_self_eq_true _) rfl ?_
    refine wk_pick rfl rfl rfl rfl ?_
    refine wk_nil ?_
    refine wk_condF rfl ?_
    refine wk_skip ?_
    refine wk_seq ?_
    refine wk_reg (id := 7) ?_
    refine wk_move rfl rfl ?_
    refine wk_call Tryd.call8 (vs := [.string (up i)]) rfl rfl ((c_Parse w4 i hi (ht.below hb03)).mono ?_)
    rintro e w5 ⟨rfl, hb5⟩
    refine ⟨_, rfl, ?_⟩
    have hb05 := hb03.trans (hb5.mono hb03.size)
    refine wk_move rfl rfl ?_
    refine wk_extract rfl rfl rfl ?_
    refine wk_extract rfl rfl rfl ?_
    refine wk_assign rfl rfl ?_
    refine wk_assign rfl rfl ?_
    refine wk_nil ?_
    refine wk_seq ?_
    refine wk_reg (id := 8) ?_
    refine wk_move rfl rfl ?_
    refine wk_call Tryd.call9 (vs := [d3]) rfl rfl ((c_OfText w5 (fun _ => False) i d3 hi (ht.below hb05) (BytesRep0.keep (.inr hr3) (keeps_below hb5 (Nat.le_refl _)))).mono ?_)
    rintro e w6 ⟨rfl, hb6⟩
    refine ⟨_, rfl, ?_⟩
    refine wk_move rfl rfl ?_
    refine wk_extract rfl rfl rfl ?_
    refine wk_extract rfl rfl rfl ?_
    refine wk_assign rfl rfl ?_
    refine wk_assign rfl rfl ?_
    refine wk_nil ?_
    refine wk_seq ?_
    refine wk_reg (id := 9) ?_
    refine wk_move rfl rfl ?_
    refine wk_move rfl rfl ?_
    refine wk_gT rfl ?_; refine wk_move rfl rfl ?_
    refine wk_pick rfl rfl rfl rfl ?_
    refine wk_move rfl rfl ?_
    refine wk_gT rfl ?_; refine wk_move rfl rfl ?_
    refine wk_gT rfl ?_; refine wk_move rfl rfl ?_
    refine wk_gT rfl ?_; refine wk_convV rfl Tryd.underlying22 Tryd.underlying3 (by with_reducible assumption) rfl ?_
    refine wk_gT rfl ?_; refine wk_cmp rfl rfl (by with_reducible assumption) rfl ?_
    refine wk_pick rfl rfl rfl rfl ?_
    refine wk_move rfl rfl ?_
    refine wk_gT rfl ?_; refine wk_move rfl rfl ?_
    refine wk_gT rfl ?_; refine wk_move rfl rfl ?_
    refine wk_gT rfl ?_; refine wk_convV rfl Tryd.underlying22 Tryd.underlying3 (by with_reducible assumption) rfl ?_
    refine wk_gT rfl ?_; refine wk_cmp rfl rfl (by with_reducible assumption) rfl ?_
    refine wk_pick rfl rfl rfl rfl ?_
    refine wk_assign rfl rfl ?_
    refine wk_nil ?_
    exact wk_ret r0 rfl rfl ⟨rfl, hb05.trans (hb6.mono hb05.size)⟩
  · refine wk_condT rfl ?_
    refine wk_seq ?_
    refine wk_reg (id := 3) ?_
    refine wk_assign rfl rfl ?_
    refine wk_nil ?_
    exact wk_ret r0 rfl rfl ⟨rfl, hb02⟩
end Go.Proofs.YthelpljefckgkaaDoor
