/-
  The reference's small functions, walked.
-/
import Derived.Test.YthejiimocbfagabGreatDoorSpecS
set_option linter.unusedVariables false
set_option linter.unusedSimpArgs false
namespace Go.Proofs.YthejiimocbfagabGreatDoor
open Go Go.RowKit Go.Proofs.Eng
set_option maxRecDepth 20000

theorem has_any (w : World) (f : Fld) (sv : Value) (ver : Int) : Calls Tryz.prog 21 #[.agg (fldV f sv).toArray, .int .i64 ver] w fun e w' => e = .returned (.bool (sHas f ver)) ∧ Below w.heap.size w w' := by
  refine calls_wk (args := [.agg (fldV f sv).toArray, .int .i64 ver]) Tryz.func21 rfl rfl ?_
  by_cases h1 : f.from_ ≤ ver
  · have c1 : cmp .leq f.from_ ver = some true := by simp [cmp, h1]
    by_cases h2 : f.to < 0
    · have c2 : cmp .lss f.to 0 = some true := by simp [cmp, h2]
      refine wk_seq ?_
      refine wk_reg (id := 0) ?_
      refine wk_box rfl rfl ?_
      refine wk_assign rfl rfl ?_
      refine wk_nil ?_
      refine wk_seq ?_
      refine wk_reg (id := 1) ?_
      refine wk_field (f := 1) (i := Tryz.t3) rfl Tryz.underlying46 rfl (by kernel_rfl) (by decide) rfl ?_
      refine wk_load rfl Tryz.underlying3 rfl (by exact cell_new rfl) rfl ?_
      refine wk_move rfl rfl ?_
      refine wk_cmp rfl rfl (by with_reducible assumption) rfl ?_
      refine wk_move rfl rfl ?_
      refine wk_gT rfl ?_; refine wk_field (f := 2) (i := Tryz.t3) rfl Tryz.underlying46 rfl (by kernel_rfl) (by decide) rfl ?_
      refine wk_gT rfl ?_; refine wk_load rfl Tryz.underlying3 rfl (by exact cell_new rfl) rfl ?_
      refine wk_gT rfl ?_; refine wk_cmp rfl rfl (by with_reducible assumption) rfl ?_
      refine wk_gT rfl ?_; refine wk_move rfl rfl ?_
      refine wk_gF rfl rfl ?_
      refine wk_gF rfl rfl ?_
      refine wk_gF rfl rfl ?_
      refine wk_gF rfl rfl ?_
      refine wk_gT rfl ?_; refine wk_pick rfl rfl rfl rfl ?_
      refine wk_pick rfl rfl rfl rfl ?_
      refine wk_assign rfl rfl ?_
      refine wk_nil ?_
      exact wk_ret r0 rfl rfl ⟨by simp [sHas, h1, h2], below1 _ _⟩
    · have c2 : cmp .lss f.to 0 = some false := by simp [cmp, h2]
      refine wk_seq ?_
      refine wk_reg (id := 0) ?_
      refine wk_box rfl rfl ?_
      refine wk_assign rfl rfl ?_
      refine wk_nil ?_
      refine wk_seq ?_
      refine wk_reg (id := 1) ?_
      refine wk_field (f := 1) (i := Tryz.t3) rfl Tryz.underlying46 rfl (by kernel_rfl) (by decide) rfl ?_
      refine wk_load rfl Tryz.underlying3 rfl (by exact cell_new rfl) rfl ?_
      refine wk_move rfl rfl ?_
      refine wk_cmp rfl rfl (by with_reducible assumption) rfl ?_
      refine wk_move rfl rfl ?_
      refine wk_gT rfl ?_; refine wk_field (f := 2) (i := Tryz.t3) rfl Tryz.underlying46 rfl (by kernel_rfl) (by decide) rfl ?_
      refine wk_gT rfl ?_; refine wk_load rfl Tryz.underlying3 rfl (by exact cell_new rfl) rfl ?_
      refine wk_gT rfl ?_; refine wk_cmp rfl rfl (by with_reducible assumption) rfl ?_
      refine wk_gT rfl ?_; refine wk_move rfl rfl ?_
      refine wk_gT rfl ?_; refine wk_move rfl rfl ?_
      refine wk_gT rfl ?_; refine wk_field (f := 2) (i := Tryz.t3) rfl Tryz.underlying46 rfl (by kernel_rfl) (by decide) rfl ?_
      refine wk_gT rfl ?_; refine wk_load rfl Tryz.underlying3 rfl (by exact cell_new rfl) rfl ?_
      refine wk_gT rfl ?_; refine wk_cmp rfl rfl rfl rfl ?_
      refine wk_gT rfl ?_; refine wk_pick rfl rfl rfl rfl ?_
      refine wk_pick rfl rfl rfl rfl ?_
      refine wk_assign rfl rfl ?_
      refine wk_nil ?_
      exact wk_ret r0 rfl rfl ⟨by simp [sHas, h1, h2], below1 _ _⟩
  · have c1 : cmp .leq f.from_ ver = some false := by simp [cmp, h1]
    refine wk_seq ?_
    refine wk_reg (id := 0) ?_
    refine wk_box rfl rfl ?_
    refine wk_assign rfl rfl ?_
    refine wk_nil ?_
    refine wk_seq ?_
    refine wk_reg (id := 1) ?_
    refine wk_field (f := 1) (i := Tryz.t3) rfl Tryz.underlying46 rfl (by kernel_rfl) (by decide) rfl ?_
    refine wk_load rfl Tryz.underlying3 rfl (by exact cell_new rfl) rfl ?_
    refine wk_move rfl rfl ?_
    refine wk_cmp rfl rfl (by with_reducible assumption) rfl ?_
    refine wk_move rfl rfl ?_
    refine wk_gF rfl rfl ?_
    refine wk_gF rfl rfl ?_
    refine wk_gF rfl rfl ?_
    refine wk_gF rfl rfl ?_
    refine wk_gF rfl rfl ?_
    refine wk_gF rfl rfl ?_
    refine wk_gF rfl rfl ?_
    refine wk_gF rfl rfl ?_
    refine wk_gF rfl rfl ?_
    refine wk_pick rfl rfl rfl rfl ?_
    refine wk_assign rfl rfl ?_
    refine wk_nil ?_
    exact wk_ret r0 rfl rfl ⟨by simp [sHas, h1], below1 _ _⟩
theorem null_any (w : World) (f : Fld) (sv : Value) (ver : Int) (X : Nat → Prop) (vs : List Value) (t : Tree) (hT : TRep w X vs t) :
    Calls Tryz.prog 45 #[.agg (fldV f sv).toArray, .int .i64 ver, .agg vs.toArray] w fun e w' => e = .returned (.bool (sNull f ver t)) ∧ Below w.heap.size w w' := by
  obtain ⟨N, S, nl, L, U, v1, v2, v3, cells, hN, hS, hL, hU, hr⟩ := hT
  refine calls_wk (args := [.agg (fldV f sv).toArray, .int .i64 ver, .agg #[.int .i64 N, v1, .bool nl, v2, v3]]) Tryz.func45 rfl rfl ?_
  cases nl with
  | false =>
    refine wk_seq ?_
    refine wk_reg (id := 0) ?_
    refine wk_box rfl rfl ?_
    refine wk_box rfl rfl ?_
    refine wk_assign rfl rfl ?_
    refine wk_nil ?_
    refine wk_seq ?_
    refine wk_reg (id := 1) ?_
    refine wk_field (f := 2) (i := Tryz.t4) rfl Tryz.underlying26 rfl (by kernel_rfl) (by decide) rfl ?_
    refine wk_load rfl Tryz.underlying4 rfl (by exact cell_new rfl) rfl ?_
    refine wk_move rfl rfl ?_
    refine wk_gF rfl rfl ?_
    refine wk_gF rfl rfl ?_
    refine wk_gF rfl rfl ?_
    refine wk_pick rfl rfl rfl rfl ?_
    refine wk_move rfl rfl ?_
    refine wk_gF rfl rfl ?_
    refine wk_gF rfl rfl ?_
    refine wk_gF rfl rfl ?_
    refine wk_gF rfl rfl ?_
    refine wk_pick rfl rfl rfl rfl ?_
    refine wk_assign rfl rfl ?_
    refine wk_nil ?_
    exact wk_ret r0 rfl rfl ⟨by simp [sNull, Tree.nl], below2 _ _ _⟩
  | true =>
    by_cases h1 : 0 ≤ f.null
    · have c1 : cmp .geq f.null 0 = some true := by simp [cmp, h1]
      refine wk_seq ?_
      refine wk_reg (id := 0) ?_
      refine wk_box rfl rfl ?_
      refine wk_box rfl rfl ?_
      refine wk_assign rfl rfl ?_
      refine wk_nil ?_
      refine wk_seq ?_
      refine wk_reg (id := 1) ?_
      refine wk_field (f := 2) (i := Tryz.t4) rfl Tryz.underlying26 rfl (by kernel_rfl) (by decide) rfl ?_
      refine wk_load rfl Tryz.underlying4 rfl (by exact cell_new rfl) rfl ?_
      refine wk_move rfl rfl ?_
      refine wk_gT rfl ?_; refine wk_field (f := 3) (i := Tryz.t3) rfl Tryz.underlying46 rfl (by kernel_rfl) (by decide) rfl ?_
      refine wk_gT rfl ?_; refine wk_load rfl Tryz.underlying3 rfl (by exact cell_new2 rfl) rfl ?_
      refine wk_gT rfl ?_; refine wk_cmp rfl rfl (by with_reducible assumption) rfl ?_
      refine wk_pick rfl rfl rfl rfl ?_
      refine wk_move rfl rfl ?_
      refine wk_gT rfl ?_; refine wk_move rfl rfl ?_
      refine wk_gT rfl ?_; refine wk_field (f := 3) (i := Tryz.t3) rfl Tryz.underlying46 rfl (by kernel_rfl) (by decide) rfl ?_
      refine wk_gT rfl ?_; refine wk_load rfl Tryz.underlying3 rfl (by exact cell_new2 rfl) rfl ?_
      refine wk_gT rfl ?_; refine wk_cmp rfl rfl rfl rfl ?_
      refine wk_pick rfl rfl rfl rfl ?_
      refine wk_assign rfl rfl ?_
      refine wk_nil ?_
      exact wk_ret r0 rfl rfl ⟨by simp [sNull, Tree.nl, h1], below2 _ _ _⟩
    · have c1 : cmp .geq f.null 0 = some false := by simp [cmp, h1]
      refine wk_seq ?_
      refine wk_reg (id := 0) ?_
      refine wk_box rfl rfl ?_
      refine wk_box rfl rfl ?_
      refine wk_assign rfl rfl ?_
      refine wk_nil ?_
      refine wk_seq ?_
      refine wk_reg (id := 1) ?_
      refine wk_field (f := 2) (i := Tryz.t4) rfl Tryz.underlying26 rfl (by kernel_rfl) (by decide) rfl ?_
      refine wk_load rfl Tryz.underlying4 rfl (by exact cell_new rfl) rfl ?_
      refine wk_move rfl rfl ?_
      refine wk_gT rfl ?_; refine wk_field (f := 3) (i := Tryz.t3) rfl Tryz.underlying46 rfl (by kernel_rfl) (by decide) rfl ?_
      refine wk_gT rfl ?_; refine wk_load rfl Tryz.underlying3 rfl (by exact cell_new2 rfl) rfl ?_
      refine wk_gT rfl ?_; refine wk_cmp rfl rfl (by with_reducible assumption) rfl ?_
      refine wk_pick rfl rfl rfl rfl ?_
      refine wk_move rfl rfl ?_
      refine wk_gF rfl rfl ?_
      refine wk_gF rfl rfl ?_
      refine wk_gF rfl rfl ?_
      refine wk_gF rfl rfl ?_
      refine wk_pick rfl rfl rfl rfl ?_
      refine wk_assign rfl rfl ?_
      refine wk_nil ?_
      exact wk_ret r0 rfl rfl ⟨by simp [sNull, Tree.nl, h1], below2 _ _ _⟩
theorem at_any (w : World) (X : Nat → Prop) (vs : List Value) (t : Tree) (i : Nat) (hT : TRep w X vs t) :
    Calls Tryz.prog 23 #[.agg vs.toArray, .int .i64 (i : Int)] w fun e w' => ∃ us, e = .returned (.agg us.toArray) ∧ TRep w' X us (sAt t i) ∧ Below w.heap.size w w' := by
  obtain ⟨N, S, nl, L, U, v1, v2, v3, cells, hN, hS, hL, hU, hr⟩ := hT
  obtain ⟨A, c, rfl, hc, hnil, hat⟩ := hL
  refine calls_wk (args := [.agg #[.int .i64 N, v1, .bool nl, .slice A L.length c, v3], .int .i64 (i : Int)]) Tryz.func23 rfl rfl ?_
  by_cases hi : i < L.length
  · have c1 : cmp .lss (i : Int) (L.length : Int) = some true := by simp [cmp, hi]
    obtain ⟨hl5, b, o, rfl, hX, hb, hcell⟩ := hat i hi
    have hrep := hr i L[i] (List.getElem?_eq_getElem hi)
    have hf := hrep.facts
    refine wk_seq ?_
    refine wk_reg (id := 0) ?_
    refine wk_box rfl rfl ?_
    refine wk_alloc (t := 26) (i := Tryz.t26) (by kernel_rfl) rfl rfl ?_
    refine wk_nil ?_
    refine wk_seq ?_
    refine wk_seq ?_
    refine wk_reg (id := 1) ?_
    refine wk_move rfl rfl ?_
    refine wk_field (f := 3) (i := Tryz.t23) rfl Tryz.underlying26 rfl (by kernel_rfl) (by decide) rfl ?_
    refine wk_load rfl Tryz.underlying23 rfl (by exact cell_new2 rfl) rfl ?_
    refine wk_slen rfl Tryz.underlying23 rfl ?_
    refine wk_cmp rfl rfl (by with_reducible assumption) rfl ?_
    refine wk_nil ?_
    refine wk_condT rfl ?_
    refine wk_seq ?_
    refine wk_reg (id := 2) ?_
    refine wk_field (f := 3) (i := Tryz.t23) rfl Tryz.underlying26 rfl (by kernel_rfl) (by decide) rfl ?_
    refine wk_load rfl Tryz.underlying23 rfl (by exact cell_new2 rfl) rfl ?_
    refine wk_move rfl rfl ?_
    refine wk_idx (i := Tryz.t26) rfl rfl Tryz.underlying23 (by kernel_rfl) hi rfl ?_
    have hcell2 : ∀ (w2 : World), Below w.heap.size w w2 → ∀ j v, (cells i)[j]? = some v → w2.cell? ((⟨b, o + i * 5, none⟩ : Addr).add j) = some v := by
      intro w2 h2 j v hv
      rw [add_addr]
      exact (World.cell?_of_block (h2.block b hb)).trans (hcell j v hv)
    refine wk_loadA (i := Tryz.t26) rfl Tryz.underlying26 rfl (by kernel_rfl) (vs := cells i) (by rw [hl5]; rfl) (hcell2 _ (below2 _ _ _)) rfl ?_
    refine wk_storeNew (w0 := w.alloc _) (i := Tryz.t26) rfl rfl (by kernel_rfl) (by rw [List.size_toArray, hl5]; rfl) (by simp only [List.size_toArray, hl5]; rfl) hf.2 ?_
    refine wk_nil ?_
    refine wk_retc r0 rfl rfl (loadVar_cells (i := Tryz.t26) Tryz.underlying26 rfl (by kernel_rfl) (by rw [hl5]; rfl) cells_new) ⟨cells i, by simp, ?_, below2 _ _ _⟩
    have : sAt (.mk N S nl L U) i = L[i] := by simp [sAt, Tree.L, List.getElem?_eq_getElem hi]
    rw [this]
    exact hrep.keep (keeps_below (below2 _ _ _) (Nat.le_refl _))
  · have c1 : cmp .lss (i : Int) (L.length : Int) = some false := by simp [cmp]; omega
    refine wk_seq ?_
    refine wk_reg (id := 0) ?_
    refine wk_box rfl rfl ?_
    refine wk_alloc (t := 26) (i := Tryz.t26) (by kernel_rfl) rfl rfl ?_
    refine wk_nil ?_
    refine wk_seq ?_
    refine wk_seq ?_
    refine wk_reg (id := 1) ?_
    refine wk_move rfl rfl ?_
    refine wk_field (f := 3) (i := Tryz.t23) rfl Tryz.underlying26 rfl (by kernel_rfl) (by decide) rfl ?_
    refine wk_load rfl Tryz.underlying23 rfl (by exact cell_new2 rfl) rfl ?_
    refine wk_slen rfl Tryz.underlying23 rfl ?_
    refine wk_cmp rfl rfl (by with_reducible assumption) rfl ?_
    refine wk_nil ?_
    refine wk_condF rfl ?_
    refine wk_skip ?_
    refine wk_seq ?_
    refine wk_reg (id := 3) ?_
    refine wk_build0 (cells := (Tryz.t26.zero.getD undef).cells) (by kernel_rfl) rfl ?_
    refine wk_storeNew (w0 := w.alloc _) (i := Tryz.t26) rfl rfl (by kernel_rfl) rfl rfl (by kernel_rfl) ?_
    refine wk_nil ?_
    refine wk_retc r0 rfl rfl (loadVar_cells (i := Tryz.t26) Tryz.underlying26 rfl (by kernel_rfl) rfl cells_new) ⟨_, rfl, ?_, below2 _ _ _⟩
    have : sAt (.mk N S nl L U) i = .zero := by simp [sAt, Tree.L, hi]
    rw [this]
    exact TRep.zero _ _
theorem min_nat (n : Nat) : (if (32767 : Int) < (n : Int) then 32767 else (n : Int)) = ((min n 32767 : Nat) : Int) := by split <;> omega
theorem whole_any (w : World) (X : Nat → Prop) (v : Value) (bs : List UInt8) (hv : BytesRep0 w X v bs) :
    Calls Tryz.prog 28 #[v] w fun e w' => ∃ v', e = .returned v' ∧ BytesRep0 w X v' (bs.take 32767) ∧ w' = w := by
  have key : ∀ (A : Option Addr) (c : Nat), v = .slice A bs.length c → bs.length ≤ c → BytesRep0 w X (.slice A (min bs.length 32767) c) (bs.take 32767) →
      Calls Tryz.prog 28 #[v] w fun e w' => ∃ v', e = .returned v' ∧ BytesRep0 w X v' (bs.take 32767) ∧ w' = w := by
    intro A c hv hc hres
    subst hv
    refine calls_wk (args := [.slice A bs.length c]) Tryz.func28 rfl rfl ?_
    refine wk_seq ?_
    refine wk_reg (id := 0) ?_
    refine wk_assign rfl rfl ?_
    refine wk_nil ?_
    refine wk_seq ?_
    refine wk_reg (id := 1) ?_
    refine wk_move rfl rfl ?_
    refine wk_move rfl rfl ?_
    refine wk_slen rfl Tryz.underlying22 rfl ?_
    refine wk_min rfl rfl rfl ?_
    refine wk_sliceH (i := Tryz.t5) rfl (congrArg (fun z => some (Value.int .i64 z)) (min_nat _)) Tryz.underlying22 (by kernel_rfl) (by omega) rfl ?_
    refine wk_assign rfl rfl ?_
    refine wk_nil ?_
    exact wk_ret r0 rfl rfl ⟨_, rfl, hres, rfl⟩
  rcases hv with ⟨⟨A0, rfl⟩, rfl⟩ | ⟨b, o, n, c, rfl, hx, hb, hl, hc, hcell⟩
  · exact key A0 0 rfl (Nat.le_refl _) (.inl ⟨⟨_, rfl⟩, rfl⟩)
  · subst hl
    refine key _ c rfl hc (.inr ⟨b, o, _, c, rfl, hx, hb, by rw [List.length_take]; omega, by omega, fun i x hi => hcell i x ?_⟩)
    rw [List.getElem?_take] at hi
    split at hi
    · exact hi
    · cases hi
theorem things_any (w : World) (X : Nat → Prop) (v : Value) (n : Nat) (cells : Nat → List Value) (hv : Lies w X v n 5 cells) :
    Calls Tryz.prog 46 #[v] w fun e w' => ∃ v', e = .returned v' ∧ Lies w X v' (min n 32767) 5 cells ∧ w' = w := by
  obtain ⟨A, c, rfl, hc, hnil, hat⟩ := hv
  refine calls_wk (args := [.slice A n c]) Tryz.func46 rfl rfl ?_
  refine wk_seq ?_
  refine wk_reg (id := 0) ?_
  refine wk_assign rfl rfl ?_
  refine wk_nil ?_
  refine wk_seq ?_
  refine wk_reg (id := 1) ?_
  refine wk_move rfl rfl ?_
  refine wk_move rfl rfl ?_
  refine wk_slen rfl Tryz.underlying23 rfl ?_
  refine wk_min rfl rfl rfl ?_
  refine wk_sliceH (i := Tryz.t26) rfl (congrArg (fun z => some (Value.int .i64 z)) (min_nat _)) Tryz.underlying23 (by kernel_rfl) (by omega) rfl ?_
  refine wk_assign rfl rfl ?_
  refine wk_nil ?_
  exact wk_ret r0 rfl rfl ⟨_, rfl, ⟨A, c, rfl, by omega, fun h => by have := hnil h; omega, fun i hi => hat i (by omega)⟩, rfl⟩
end Go.Proofs.YthejiimocbfagabGreatDoor
