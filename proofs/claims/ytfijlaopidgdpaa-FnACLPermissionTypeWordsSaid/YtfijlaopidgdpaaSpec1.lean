/-
  The reference's small functions, walked.
-/
import Derived.Test.YtfijlaopidgdpaaEngE
import Derived.Test.YtfijlaopidgdpaaKbin
namespace Go.Proofs.Ytfijlaopidgdpaa
open Go Go.RowKit Go.Proofs.Eng
set_option maxRecDepth 20000

theorem mixed : Try.prog.follows .mixedOrders = true := by kernel_rfl
theorem has_any (w : World) (f : Fld) (sv : Value) (ver : Int) : Calls Try.prog 36 #[.agg (fldV f sv).toArray, .int .i64 ver] w fun e w' => e = .returned (.bool (sHas f ver)) ∧ Below w.heap.size w w' := by
  refine calls_wk (args := [.agg (fldV f sv).toArray, .int .i64 ver]) Try.func36 rfl rfl ?_
  by_cases h1 : f.from_ ≤ ver
  · have c1 : cmp .leq f.from_ ver = some true := by simp [cmp, h1]
    by_cases h2 : f.to < 0
    · have c2 : cmp .lss f.to 0 = some true := by simp [cmp, h2]
      refine wk_seq ?_
      refine wk_reg (id := 0) ?_
      refine wk_box rfl rfl ?_
      refine wk_assign rfl rfl ?_
      refine wk_nil ?_
      refine wk_seq ?_
      refine wk_reg (id := 1) ?_
      refine wk_field (f := 1) (i := Try.t3) rfl Try.underlying50 rfl (by kernel_rfl) (by decide) rfl ?_
      refine wk_load rfl Try.underlying3 rfl (by exact cell_new rfl) rfl ?_
      refine wk_move rfl rfl ?_
      refine wk_cmp rfl rfl (by with_reducible assumption) rfl ?_
      refine wk_move rfl rfl ?_
      refine wk_gT rfl ?_; refine wk_field (f := 2) (i := Try.t3) rfl Try.underlying50 rfl (by kernel_rfl) (by decide) rfl ?_
      refine wk_gT rfl ?_; refine wk_load rfl Try.underlying3 rfl (by exact cell_new rfl) rfl ?_
      refine wk_gT rfl ?_; refine wk_cmp rfl rfl (by with_reducible assumption) rfl ?_
      refine wk_gT rfl ?_; refine wk_move rfl rfl ?_
      refine wk_gF rfl rfl ?_
      refine wk_gF rfl rfl ?_
      refine wk_gF rfl rfl ?_
      refine wk_gF rfl rfl ?_
      refine wk_gT rfl ?_; refine wk_pick rfl rfl rfl rfl ?_
      refine wk_pick rfl rfl rfl rfl ?_
      refine wk_assign rfl rfl ?_
      refine wk_nil ?_
      exact wk_ret r0 rfl rfl ⟨by simp [sHas, h1, h2], below1 _ _⟩
    · have c2 : cmp .lss f.to 0 = some false := by simp [cmp, h2]
      refine wk_seq ?_
      refine wk_reg (id := 0) ?_
      refine wk_box rfl rfl ?_
      refine wk_assign rfl rfl ?_
      refine wk_nil ?_
      refine wk_seq ?_
      refine wk_reg (id := 1) ?_
      refine wk_field (f := 1) (i := Try.t3) rfl Try.underlying50 rfl (by kernel_rfl) (by decide) rfl ?_
      refine wk_load rfl Try.underlying3 rfl (by exact cell_new rfl) rfl ?_
      refine wk_move rfl rfl ?_
      refine wk_cmp rfl rfl (by with_reducible assumption) rfl ?_
      refine wk_move rfl rfl ?_
      refine wk_gT rfl ?_; refine wk_field (f := 2) (i := Try.t3) rfl Try.underlying50 rfl (by kernel_rfl) (by decide) rfl ?_
      refine wk_gT rfl ?_; refine wk_load rfl Try.underlying3 rfl (by exact cell_new rfl) rfl ?_
      refine wk_gT rfl ?_; refine wk_cmp rfl rfl (by with_reducible assumption) rfl ?_
      refine wk_gT rfl ?_; refine wk_move rfl rfl ?_
      refine wk_gT rfl ?_; refine wk_move rfl rfl ?_
      refine wk_gT rfl ?_; refine wk_field (f := 2) (i := Try.t3) rfl Try.underlying50 rfl (by kernel_rfl) (by decide) rfl ?_
      refine wk_gT rfl ?_; refine wk_load rfl Try.underlying3 rfl (by exact cell_new rfl) rfl ?_
      refine wk_gT rfl ?_; refine wk_cmp rfl rfl rfl rfl ?_
      refine wk_gT rfl ?_; refine wk_pick rfl rfl rfl rfl ?_
      refine wk_pick rfl rfl rfl rfl ?_
      refine wk_assign rfl rfl ?_
      refine wk_nil ?_
      exact wk_ret r0 rfl rfl ⟨by simp [sHas, h1, h2], below1 _ _⟩
  · have c1 : cmp .leq f.from_ ver = some false := by simp [cmp, h1]
    refine wk_seq ?_
    refine wk_reg (id := 0) ?_
    refine wk_box rfl rfl ?_
    refine wk_assign rfl rfl ?_
    refine wk_nil ?_
    refine wk_seq ?_
    refine wk_reg (id := 1) ?_
    refine wk_field (f := 1) (i := Try.t3) rfl Try.underlying50 rfl (by kernel_rfl) (by decide) rfl ?_
    refine wk_load rfl Try.underlying3 rfl (by exact cell_new rfl) rfl ?_
    refine wk_move rfl rfl ?_
    refine wk_cmp rfl rfl (by with_reducible assumption) rfl ?_
    refine wk_move rfl rfl ?_
    refine wk_gF rfl rfl ?_
    refine wk_gF rfl rfl ?_
    refine wk_gF rfl rfl ?_
    refine wk_gF rfl rfl ?_
    refine wk_gF rfl rfl ?_
    refine wk_gF rfl rfl ?_
    refine wk_gF rfl rfl ?_
    refine wk_gF rfl rfl ?_
    refine wk_gF rfl rfl ?_
    refine wk_pick rfl rfl rfl rfl ?_
    refine wk_assign rfl rfl ?_
    refine wk_nil ?_
    exact wk_ret r0 rfl rfl ⟨by simp [sHas, h1], below1 _ _⟩
theorem null_any (w : World) (f : Fld) (sv : Value) (ver : Int) (X : Nat → Prop) (vs : List Value) (t : Tree) (hT : TRep w X vs t) :
    Calls Try.prog 52 #[.agg (fldV f sv).toArray, .int .i64 ver, .agg vs.toArray] w fun e w' => e = .returned (.bool (sNull f ver t)) ∧ Below w.heap.size w w' := by
  obtain ⟨N, S, nl, L, U, v1, v2, v3, cells, hN, hS, hL, hU, hr⟩ := hT
  refine calls_wk (args := [.agg (fldV f sv).toArray, .int .i64 ver, .agg #[.int .i64 N, v1, .bool nl, v2, v3]]) Try.func52 rfl rfl ?_
  cases nl with
  | false =>
    refine wk_seq ?_
    refine wk_reg (id := 0) ?_
    refine wk_box rfl rfl ?_
    refine wk_box rfl rfl ?_
    refine wk_assign rfl rfl ?_
    refine wk_nil ?_
    refine wk_seq ?_
    refine wk_reg (id := 1) ?_
    refine wk_field (f := 2) (i := Try.t4) rfl Try.underlying35 rfl (by kernel_rfl) (by decide) rfl ?_
    refine wk_load rfl Try.underlying4 rfl (by exact cell_new rfl) rfl ?_
    refine wk_move rfl rfl ?_
    refine wk_gF rfl rfl ?_
    refine wk_gF rfl rfl ?_
    refine wk_gF rfl rfl ?_
    refine wk_pick rfl rfl rfl rfl ?_
    refine wk_move rfl rfl ?_
    refine wk_gF rfl rfl ?_
    refine wk_gF rfl rfl ?_
    refine wk_gF rfl rfl ?_
    refine wk_gF rfl rfl ?_
    refine wk_pick rfl rfl rfl rfl ?_
    refine wk_assign rfl rfl ?_
    refine wk_nil ?_
    exact wk_ret r0 rfl rfl ⟨by simp [sNull, Tree.nl], below2 _ _ _⟩
  | true =>
    by_cases h1 : 0 ≤ f.null
    · have c1 : cmp .geq f.null 0 = some true := by simp [cmp, h1]
      refine wk_seq ?_
      refine wk_reg (id := 0) ?_
      refine wk_box rfl rfl ?_
      refine wk_box rfl rfl ?_
      refine wk_assign rfl rfl ?_
      refine wk_nil ?_
      refine wk_seq ?_
      refine wk_reg (id := 1) ?_
      refine wk_field (f := 2) (i := Try.t4) rfl Try.underlying35 rfl (by kernel_rfl) (by decide) rfl ?_
      refine wk_load rfl Try.underlying4 rfl (by exact cell_new rfl) rfl ?_
      refine wk_move rfl rfl ?_
      refine wk_gT rfl ?_; refine wk_field (f := 3) (i := Try.t3) rfl Try.underlying50 rfl (by kernel_rfl) (by decide) rfl ?_
      refine wk_gT rfl ?_; refine wk_load rfl Try.underlying3 rfl (by exact cell_new2 rfl) rfl ?_
      refine wk_gT rfl ?_; refine wk_cmp rfl rfl (by with_reducible assumption) rfl ?_
      refine wk_pick rfl rfl rfl rfl ?_
      refine wk_move rfl rfl ?_
      refine wk_gT rfl ?_; refine wk_move rfl rfl ?_
      refine wk_gT rfl ?_; refine wk_field (f := 3) (i := Try.t3) rfl Try.underlying50 rfl (by kernel_rfl) (by decide) rfl ?_
      refine wk_gT rfl ?_; refine wk_load rfl Try.underlying3 rfl (by exact cell_new2 rfl) rfl ?_
      refine wk_gT rfl ?_; refine wk_cmp rfl rfl rfl rfl ?_
      refine wk_pick rfl rfl rfl rfl ?_
      refine wk_assign rfl rfl ?_
      refine wk_nil ?_
      exact wk_ret r0 rfl rfl ⟨by simp [sNull, Tree.nl, h1], below2 _ _ _⟩
    · have c1 : cmp .geq f.null 0 = some false := by simp [cmp, h1]
      refine wk_seq ?_
      refine wk_reg (id := 0) ?_
      refine wk_box rfl rfl ?_
      refine wk_box rfl rfl ?_
      refine wk_assign rfl rfl ?_
      refine wk_nil ?_
      refine wk_seq ?_
      refine wk_reg (id := 1) ?_
      refine wk_field (f := 2) (i := Try.t4) rfl Try.underlying35 rfl (by kernel_rfl) (by decide) rfl ?_
      refine wk_load rfl Try.underlying4 rfl (by exact cell_new rfl) rfl ?_
      refine wk_move rfl rfl ?_
      refine wk_gT rfl ?_; refine wk_field (f := 3) (i := Try.t3) rfl Try.underlying50 rfl (by kernel_rfl) (by decide) rfl ?_
      refine wk_gT rfl ?_; refine wk_load rfl Try.underlying3 rfl (by exact cell_new2 rfl) rfl ?_
      refine wk_gT rfl ?_; refine wk_cmp rfl rfl (by with_reducible assumption) rfl ?_
      refine wk_pick rfl rfl rfl rfl ?_
      refine wk_move rfl rfl ?_
      refine wk_gF rfl rfl ?_
      refine wk_gF rfl rfl ?_
      refine wk_gF rfl rfl ?_
      refine wk_gF rfl rfl ?_
      refine wk_pick rfl rfl rfl rfl ?_
      refine wk_assign rfl rfl ?_
      refine wk_nil ?_
      exact wk_ret r0 rfl rfl ⟨by simp [sNull, Tree.nl, h1], below2 _ _ _⟩
theorem at_any (w : World) (X : Nat → Prop) (vs : List Value) (t : Tree) (i : Nat) (hT : TRep w X vs t) :
    Calls Try.prog 38 #[.agg vs.toArray, .int .i64 (i : Int)] w fun e w' => ∃ us, e = .returned (.agg us.toArray) ∧ TRep w' X us (sAt t i) ∧ Below w.heap.size w w' := by
  obtain ⟨N, S, nl, L, U, v1, v2, v3, cells, hN, hS, hL, hU, hr⟩ := hT
  obtain ⟨A, c, rfl, hc, hnil, hA, hat⟩ := hL
  refine calls_wk (args := [.agg #[.int .i64 N, v1, .bool nl, .slice A L.length c, v3], .int .i64 (i : Int)]) Try.func38 rfl rfl ?_
  by_cases hi : i < L.length
  · have c1 : cmp .lss (i : Int) (L.length : Int) = some true := by simp [cmp, hi]
    obtain ⟨hl5, b, o, rfl, hX, hb, hcell⟩ := hat i hi
    have hrep := hr i L[i] (List.getElem?_eq_getElem hi)
    have hf := hrep.facts
    refine wk_seq ?_
    refine wk_reg (id := 0) ?_
    refine wk_box rfl rfl ?_
    refine wk_alloc (t := 35) (i := Try.t35) (by kernel_rfl) rfl rfl ?_
    refine wk_nil ?_
    refine wk_seq ?_
    refine wk_seq ?_
    refine wk_reg (id := 1) ?_
    refine wk_move rfl rfl ?_
    refine wk_field (f := 3) (i := Try.t32) rfl Try.underlying35 rfl (by kernel_rfl) (by decide) rfl ?_
    refine wk_load rfl Try.underlying32 rfl (by exact cell_new2 rfl) rfl ?_
    refine wk_slen rfl Try.underlying32 rfl ?_
    refine wk_cmp rfl rfl (by with_reducible assumption) rfl ?_
    refine wk_nil ?_
    refine wk_condT rfl ?_
    refine wk_seq ?_
    refine wk_reg (id := 2) ?_
    refine wk_field (f := 3) (i := Try.t32) rfl Try.underlying35 rfl (by kernel_rfl) (by decide) rfl ?_
    refine wk_load rfl Try.underlying32 rfl (by exact cell_new2 rfl) rfl ?_
    refine wk_move rfl rfl ?_
    refine wk_idx (i := Try.t35) rfl rfl Try.underlying32 (by kernel_rfl) hi rfl ?_
    have hcell2 : ∀ (w2 : World), Below w.heap.size w w2 → ∀ j v, (cells i)[j]? = some v → w2.cell? ((⟨b, o + i * 5, none⟩ : Addr).add j) = some v := by
      intro w2 h2 j v hv
      rw [add_addr]
      exact (World.cell?_of_block (h2.block b hb)).trans (hcell j v hv)
    refine wk_loadA (i := Try.t35) rfl Try.underlying35 rfl (by kernel_rfl) (vs := cells i) (by rw [hl5]; rfl) (hcell2 _ (below2 _ _ _)) rfl ?_
    refine wk_storeNew (w0 := w.alloc _) (i := Try.t35) rfl rfl (by kernel_rfl) (by rw [List.size_toArray, hl5]; rfl) (by simp only [List.size_toArray, hl5]; rfl) hf.2 ?_
    refine wk_nil ?_
    refine wk_retc r0 rfl rfl (loadVar_cells (i := Try.t35) Try.underlying35 rfl (by kernel_rfl) (by rw [hl5]; rfl) cells_new) ⟨cells i, by simp, ?_, below2 _ _ _⟩
    have : sAt (.mk N S nl L U) i = L[i] := by simp [sAt, Tree.L, List.getElem?_eq_getElem hi]
    rw [this]
    exact hrep.keep (keeps_below (below2 _ _ _) (Nat.le_refl _))
  · have c1 : cmp .lss (i : Int) (L.length : Int) = some false := by simp [cmp]; omega
    refine wk_seq ?_
    refine wk_reg (id := 0) ?_
    refine wk_box rfl rfl ?_
    refine wk_alloc (t := 35) (i := Try.t35) (by kernel_rfl) rfl rfl ?_
    refine wk_nil ?_
    refine wk_seq ?_
    refine wk_seq ?_
    refine wk_reg (id := 1) ?_
    refine wk_move rfl rfl ?_
    refine wk_field (f := 3) (i := Try.t32) rfl Try.underlying35 rfl (by kernel_rfl) (by decide) rfl ?_
    refine wk_load rfl Try.underlying32 rfl (by exact cell_new2 rfl) rfl ?_
    refine wk_slen rfl Try.underlying32 rfl ?_
    refine wk_cmp rfl rfl (by with_reducible assumption) rfl ?_
    refine wk_nil ?_
    refine wk_condF rfl ?_
    refine wk_skip ?_
    refine wk_seq ?_
    refine wk_reg (id := 3) ?_
    refine wk_build0 (cells := (Try.t35.zero.getD undef).cells) (by kernel_rfl) rfl ?_
    refine wk_storeNew (w0 := w.alloc _) (i := Try.t35) rfl rfl (by kernel_rfl) rfl rfl (by kernel_rfl) ?_
    refine wk_nil ?_
    refine wk_retc r0 rfl rfl (loadVar_cells (i := Try.t35) Try.underlying35 rfl (by kernel_rfl) rfl cells_new) ⟨_, rfl, ?_, below2 _ _ _⟩
    have : sAt (.mk N S nl L U) i = .zero := by simp [sAt, Tree.L, hi]
    rw [this]
    exact TRep.zero _ _
theorem min_nat (n : Nat) : (if (32767 : Int) < (n : Int) then 32767 else (n : Int)) = ((min n 32767 : Nat) : Int) := by split <;> omega
theorem whole_any (w : World) (X : Nat → Prop) (v : Value) (bs : List UInt8) (hv : BytesRep0 w X v bs) :
    Calls Try.prog 43 #[v] w fun e w' => ∃ v', e = .returned v' ∧ BytesRep0 w X v' (bs.take 32767) ∧ w' = w := by
  have key : ∀ (A : Option Addr) (c : Nat), v = .slice A bs.length c → bs.length ≤ c → (∀ a, A = some a → ∃ b o, a = ⟨b, o, none⟩) → BytesRep0 w X (.slice A (min bs.length 32767) c) (bs.take 32767) →
      Calls Try.prog 43 #[v] w fun e w' => ∃ v', e = .returned v' ∧ BytesRep0 w X v' (bs.take 32767) ∧ w' = w := by
    intro A c hv hc hA hres
    subst hv
    refine calls_wk (args := [.slice A bs.length c]) Try.func43 rfl rfl ?_
    refine wk_seq ?_
    refine wk_reg (id := 0) ?_
    refine wk_assign rfl rfl ?_
    refine wk_nil ?_
    refine wk_seq ?_
    refine wk_reg (id := 1) ?_
    refine wk_move rfl rfl ?_
    refine wk_move rfl rfl ?_
    refine wk_slen rfl Try.underlying28 rfl ?_
    refine wk_min rfl rfl rfl ?_
    refine wk_sliceH (i := Try.t5) rfl (congrArg (fun z => some (Value.int .i64 z)) (min_nat _)) Try.underlying28 (by kernel_rfl) (by omega) hA rfl ?_
    refine wk_assign rfl rfl ?_
    refine wk_nil ?_
    exact wk_ret r0 rfl rfl ⟨_, rfl, hres, rfl⟩
  rcases hv with ⟨rfl, rfl⟩ | ⟨b, o, n, c, rfl, hx, hb, hl, hc, hcell⟩
  · exact key none 0 rfl (Nat.le_refl _) (by simp) (.inl ⟨rfl, rfl⟩)
  · subst hl
    refine key _ c rfl hc (fun a ha => ⟨b, o, (Option.some.inj ha).symm⟩) (.inr ⟨b, o, _, c, rfl, hx, hb, by rw [List.length_take]; omega, by omega, fun i x hi => hcell i x ?_⟩)
    rw [List.getElem?_take] at hi
    split at hi
    · exact hi
    · cases hi
theorem things_any (w : World) (X : Nat → Prop) (v : Value) (n : Nat) (cells : Nat → List Value) (hv : Lies w X v n 5 cells) :
    Calls Try.prog 53 #[v] w fun e w' => ∃ v', e = .returned v' ∧ Lies w X v' (min n 32767) 5 cells ∧ w' = w := by
  obtain ⟨A, c, rfl, hc, hnil, hA, hat⟩ := hv
  refine calls_wk (args := [.slice A n c]) Try.func53 rfl rfl ?_
  refine wk_seq ?_
  refine wk_reg (id := 0) ?_
  refine wk_assign rfl rfl ?_
  refine wk_nil ?_
  refine wk_seq ?_
  refine wk_reg (id := 1) ?_
  refine wk_move rfl rfl ?_
  refine wk_move rfl rfl ?_
  refine wk_slen rfl Try.underlying32 rfl ?_
  refine wk_min rfl rfl rfl ?_
  refine wk_sliceH (i := Try.t35) rfl (congrArg (fun z => some (Value.int .i64 z)) (min_nat _)) Try.underlying32 (by kernel_rfl) (by omega) hA rfl ?_
  refine wk_assign rfl rfl ?_
  refine wk_nil ?_
  exact wk_ret r0 rfl rfl ⟨_, rfl, ⟨A, c, rfl, by omega, fun h => by have := hnil h; omega, hA, fun i hi => hat i (by omega)⟩, rfl⟩
end Go.Proofs.Ytfijlaopidgdpaa
