/-
  The reference: is a field as usual? By the contract of the tags that nobody knows.
-/
import Derived.Test.YthejiimocbfagabGreatDoorSpec5
set_option linter.unusedVariables false
set_option linter.unusedSimpArgs false
namespace Go.Proofs.YthejiimocbfagabGreatDoor
open Go Go.RowKit Go.Proofs.Eng
set_option maxRecDepth 20000
set_option maxHeartbeats 4000000

def UnkC (G : List (Nat × List UInt8) → Prop) : Prop :=
  ∀ (w : World) (X : Nat → Prop) (v : Value) (fs : List Fld) (tv : Value) (l : List (Nat × List UInt8)), FRep w X v fs → TagsOk fs → fs.length < 4294967296 → URep w X tv l → G l →
    Calls Tryz.prog 27 #[v, tv] w fun e w' => ∃ v', e = .returned v' ∧ URep w' (fun b => X b ∧ b < w.heap.size) v' (sUnknown fs l) ∧ Below w.heap.size w w'
def UsualC (G : List (Nat × List UInt8) → Prop) (d : Nat) : Prop :=
  ∀ (w : World) (X : Nat → Prop) (f : Fld) (sv : Value) (vs : List Value) (t : Tree), FRep w X sv f.sub → TRep w X vs t → fsB d f.sub = true → TOk G t →
    Calls Tryz.prog 25 #[.agg (fldV f sv).toArray, .agg vs.toArray] w fun e w' => e = .returned (.bool (sUsual (d + 1) f t)) ∧ Below w.heap.size w w'

theorem len0 {α : Type} (l : List α) : ((l.length : Int) == 0) = l.isEmpty := by
  cases l with
  | nil => rfl
  | cons a l => simp only [List.length_cons, List.isEmpty_cons, beq_eq_false_iff_ne]; omega

theorem usual_any {G : List (Nat × List UInt8) → Prop} (h0 : G []) (hU : UnkC G) (d : Nat) (ih : ∀ d', d = d' + 1 → UsualC G d') : UsualC G d := by
  intro w X f sv vs t hF hT hfs hok
  have hT0 := hT
  obtain ⟨N, S, nl, L, U, v1, v2, v3, cells, hN, hS, hL, hUr, hr⟩ := hT
  have hSl : S.length ≤ lim := by cases hok with | mk _ _ _ _ _ h _ _ _ => exact h
  have hGU : G U := by cases hok with | mk _ _ _ _ _ _ _ h _ => exact h
  rw [lim_eq] at hSl
  refine calls_wk (args := [.agg (fldV f sv).toArray, .agg #[.int .i64 N, v1, .bool nl, v2, v3]]) Tryz.func25 rfl rfl ?_
  have hwk : Below w.heap.size w ((w.alloc (.cells (Value.agg (fldV f sv).toArray).cells 46)).alloc (.cells (Value.agg #[.int .i64 N, v1, .bool nl, v2, v3]).cells 26)) := below2 _ _ _
  have hF1 : ((w.alloc (.cells (Value.agg (fldV f sv).toArray).cells 46)).alloc (.cells (Value.agg #[.int .i64 N, v1, .bool nl, v2, v3]).cells 26)).heap[w.heap.size]? = some (.cells (fldV f sv).toArray 46 (0, 0)) := heap_prev
  have hT1 : ((w.alloc (.cells (Value.agg (fldV f sv).toArray).cells 46)).alloc (.cells (Value.agg #[.int .i64 N, v1, .bool nl, v2, v3]).cells 26)).heap[(w.alloc (.cells (Value.agg (fldV f sv).toArray).cells 46)).heap.size]? = some (.cells #[.int .i64 N, v1, .bool nl, v2, v3] 26 (0, 0)) := heap_alloc_last _ _
  by_cases k0 : f.kind = 0
  · have c0 : cmp .eql f.kind 0 = some true := by simp [cmp, k0]
    have e1 : IntKind.i64.wrap ((BitVec.ofInt IntKind.i64.bits N &&& BitVec.ofInt IntKind.i64.bits 1).toNat) = N % 2 := and1_64 N
    refine wk_seq ?_
    refine wk_reg (id := 0) ?_
    refine wk_box rfl rfl ?_
    refine wk_box rfl rfl ?_
    refine wk_assign rfl rfl ?_
    refine wk_nil ?_
    refine wk_seq ?_
    refine wk_seq ?_
    refine wk_reg (id := 1) ?_
    refine wk_field (f := 0) (i := Tryz.t3) rfl Tryz.underlying46 rfl (by kernel_rfl) (by decide) rfl ?_
    refine wk_load rfl Tryz.underlying3 rfl (by exact cell_blk (by with_reducible assumption) rfl) rfl ?_
    refine wk_nil ?_
    refine wk_block ?_
    refine wk_seq ?_
    refine wk_reg (id := 2) ?_
    refine wk_cmp rfl rfl (by with_reducible assumption) rfl ?_
    refine wk_assign rfl rfl ?_
    refine wk_nil ?_
    refine wk_condT rfl ?_
    refine wk_seq ?_
    refine wk_reg (id := 3) ?_
    refine wk_field (f := 0) (i := Tryz.t2) rfl Tryz.underlying26 rfl (by kernel_rfl) (by decide) rfl ?_
    refine wk_load rfl Tryz.underlying2 rfl (by exact cell_blk (by with_reducible assumption) rfl) rfl ?_
    refine wk_and rfl rfl rfl ?_
    refine wk_field (f := 5) (i := Tryz.t2) rfl Tryz.underlying46 rfl (by kernel_rfl) (by decide) rfl ?_
    refine wk_load rfl Tryz.underlying2 rfl (by exact cell_blk (by with_reducible assumption) rfl) rfl ?_
    refine wk_cmp rfl rfl rfl rfl ?_
    refine wk_assign rfl rfl ?_
    refine wk_nil ?_
    refine wk_ret (rb r0) rfl rfl ⟨?_, hwk⟩
    rw [e1]
    simp only [sUsual, k0, if_true, Tree.N]
    rfl
  have c0 : cmp .eql f.kind 0 = some false := by simp [cmp, k0]
  by_cases k7 : f.kind = 7
  · have c7 : cmp .eql f.kind 7 = some true := by simp [cmp, k7]
    obtain ⟨A, c, rfl, _⟩ := hS.form
    have hsu : sUsual (d + 1) f (.mk N S nl L U) = (S.take 16).all (· == 0) := by simp only [sUsual, k7, Tree.S]; rfl
    rw [hsu]
    refine wk_seq ?_
    refine wk_reg (id := 0) ?_
    refine wk_box rfl rfl ?_
    refine wk_box rfl rfl ?_
    refine wk_assign rfl rfl ?_
    refine wk_nil ?_
    refine wk_seq ?_
    refine wk_seq ?_
    refine wk_reg (id := 1) ?_
    refine wk_field (f := 0) (i := Tryz.t3) rfl Tryz.underlying46 rfl (by kernel_rfl) (by decide) rfl ?_
    refine wk_load rfl Tryz.underlying3 rfl (by exact cell_blk (by with_reducible assumption) rfl) rfl ?_
    refine wk_nil ?_
    refine wk_block ?_
    refine wk_seq ?_
    refine wk_reg (id := 2) ?_
    refine wk_cmp rfl rfl (by with_reducible assumption) rfl ?_
    refine wk_assign rfl rfl ?_
    refine wk_nil ?_
    refine wk_condF rfl ?_
    refine wk_seq ?_
    refine wk_reg (id := 4) ?_
    refine wk_cmp rfl rfl (by with_reducible assumption) rfl ?_
    refine wk_assign rfl rfl ?_
    refine wk_nil ?_
    refine wk_condT rfl ?_
    refine wk_seq ?_
    refine wk_seq ?_
    refine wk_reg (id := 5) ?_
    refine wk_field (f := 1) (i := Tryz.t22) rfl Tryz.underlying26 rfl (by kernel_rfl) (by decide) rfl ?_
    refine wk_load rfl Tryz.underlying22 rfl (by exact cell_blk (by with_reducible assumption) rfl) rfl ?_
    refine wk_slen rfl Tryz.underlying22 rfl ?_
    refine wk_move rfl rfl ?_
    refine wk_nil ?_
    refine wk_loop (fun i : Nat => [(22, .slice A S.length c), (23, .int .i64 (S.length : Int)), (24, .int .i64 (i : Int))]) (fun i w' => i ≤ S.length ∧ (S.take (min i 16)).all (· == 0) = true ∧ Below w.heap.size w w') (fun i => S.length - i) 0
      rfl ⟨Nat.zero_le _, rfl, hwk⟩ ?_
    rintro i w1 ⟨hi, ha, hb⟩
    by_cases hlt : i < S.length
    · have c2 : cmp .lss (i : Int) (S.length : Int) = some true := by simp [cmp, hlt]
      obtain ⟨b1, o1, k1, e1, _, hbb1, hc1⟩ := hS.at hlt
      simp only [Value.slice.injEq] at e1
      obtain ⟨rfl, _, rfl⟩ := e1
      have hc1' := (World.cell?_of_block (hb.block b1 hbb1)).trans hc1
      have hnx : IntKind.i64.wrap ((i : Int) + 1) = ((i + 1 : Nat) : Int) := i64w ((i : Int) + 1) (by omega) (by omega)
      have hnext : i < 16 → S[i] = 0 → (S.take (min (i + 1) 16)).all (· == 0) = true := by
        intro h1 h2
        rw [Nat.min_eq_left (by omega)] at ha ⊢
        rw [List.take_add_one, List.getElem?_eq_getElem hlt, List.all_append, ha, Bool.true_and, h2]
        rfl
      have hnext2 : ¬ i < 16 → (S.take (min (i + 1) 16)).all (· == 0) = true := by
        intro h1
        rw [Nat.min_eq_right (by omega)] at ha ⊢
        exact ha
      have hbad : i < 16 → S[i] ≠ 0 → (S.take 16).all (· == 0) = false := by
        intro h1 h2
        rw [List.all_eq_false]
        refine ⟨S[i], ?_, by simpa using h2⟩
        exact List.mem_take_iff_getElem.2 ⟨i, by omega, rfl⟩
      refine wk_seq ?_
      refine wk_reg (id := 6) ?_
      refine wk_cmp rfl rfl (by with_reducible assumption) rfl ?_
      refine wk_nil ?_
      refine wk_seq ?_
      refine wk_condT rfl ?_
      refine wk_skip ?_
      refine wk_seq ?_
      refine wk_block ?_
      refine wk_seq ?_
      refine wk_reg (id := 7) ?_
      refine wk_move rfl rfl ?_
      refine wk_idx (i := Tryz.t5) rfl rfl Tryz.underlying22 (by kernel_rfl) hlt rfl ?_
      refine wk_load rfl Tryz.underlying5 rfl (v := bv S[i]) (by rw [show o1 + i * Tryz.t5.size = o1 + i from by show o1 + i * 1 = _; omega]; exact hc1') rfl ?_
      by_cases h16 : i < 16
      · have c3 : cmp .lss (i : Int) 16 = some true := by simp [cmp]; omega
        by_cases hz : S[i] = 0
        · have c4 : cmp .neq ((S[i].toNat : Nat) : Int) 0 = some false := by simp [cmp, hz]
          refine wk_assign rfl rfl ?_
          refine wk_assign rfl rfl ?_
          refine wk_nil ?_
          refine wk_seq ?_
          refine wk_reg (id := 8) ?_
          refine wk_move rfl rfl ?_
          refine wk_cmp rfl rfl (by with_reducible assumption) rfl ?_
          refine wk_move rfl rfl ?_
          refine wk_gT rfl ?_; refine wk_move rfl rfl ?_
          refine wk_gT rfl ?_; refine wk_cmp rfl rfl (by with_reducible assumption) rfl ?_
          refine wk_pick rfl rfl rfl rfl ?_
          refine wk_nil ?_
          refine wk_condF rfl ?_
          refine wk_skip ?_
          refine wk_blockEnd ?_
          refine wk_reg (id := 10) ?_
          refine wk_add rfl rfl rfl ?_
          refine wk_move rfl rfl ?_
          refine wk_nil ?_
          exact wk_loopNext (i + 1) (by omega) (congrArg (fun z => [some (Value.slice (some ⟨b1, o1, none⟩) S.length c), some (Value.int .i64 (S.length : Int)), some (Value.int .i64 z)]) hnx) ⟨by omega, hnext h16 hz, hb⟩
        · have c4 : cmp .neq ((S[i].toNat : Nat) : Int) 0 = some true := by
            have h3 : ¬ ((S[i].toNat : Nat) : Int) = 0 := fun e => hz (UInt8.toNat_inj.1 (by simp; omega))
            simp only [cmp]
            rw [bne_iff_ne.2 h3]
          refine wk_assign rfl rfl ?_
          refine wk_assign rfl rfl ?_
          refine wk_nil ?_
          refine wk_seq ?_
          refine wk_reg (id := 8) ?_
          refine wk_move rfl rfl ?_
          refine wk_cmp rfl rfl (by with_reducible assumption) rfl ?_
          refine wk_move rfl rfl ?_
          refine wk_gT rfl ?_; refine wk_move rfl rfl ?_
          refine wk_gT rfl ?_; refine wk_cmp rfl rfl (by with_reducible assumption) rfl ?_
          refine wk_pick rfl rfl rfl rfl ?_
          refine wk_nil ?_
          refine wk_condT rfl ?_
          refine wk_seq ?_
          refine wk_reg (id := 9) ?_
          refine wk_assign rfl rfl ?_
          refine wk_nil ?_
          refine wk_ret (rb (rl (rb r0))) rfl rfl ⟨by rw [hbad h16 hz], hb⟩
      · have c3 : cmp .lss (i : Int) 16 = some false := by simp [cmp]; omega
        refine wk_assign rfl rfl ?_
        refine wk_assign rfl rfl ?_
        refine wk_nil ?_
        refine wk_seq ?_
        refine wk_reg (id := 8) ?_
        refine wk_move rfl rfl ?_
        refine wk_cmp rfl rfl (by with_reducible assumption) rfl ?_
        refine wk_move rfl rfl ?_
        refine wk_gF rfl rfl ?_
        refine wk_gF rfl rfl ?_
        refine wk_pick rfl rfl rfl rfl ?_
        refine wk_nil ?_
        refine wk_condF rfl ?_
        refine wk_skip ?_
        refine wk_blockEnd ?_
        refine wk_reg (id := 10) ?_
        refine wk_add rfl rfl rfl ?_
        refine wk_move rfl rfl ?_
        refine wk_nil ?_
        exact wk_loopNext (i + 1) (by omega) (congrArg (fun z => [some (Value.slice (some ⟨b1, o1, none⟩) S.length c), some (Value.int .i64 (S.length : Int)), some (Value.int .i64 z)]) hnx) ⟨by omega, hnext2 h16, hb⟩
    · have c2 : cmp .lss (i : Int) (S.length : Int) = some false := by simp [cmp]; omega
      refine wk_seq ?_
      refine wk_reg (id := 6) ?_
      refine wk_cmp rfl rfl (by with_reducible assumption) rfl ?_
      refine wk_nil ?_
      refine wk_seq ?_
      refine wk_condF rfl ?_
      refine wk_loopExit ?_
      refine wk_seq ?_
      refine wk_reg (id := 11) ?_
      refine wk_assign rfl rfl ?_
      refine wk_nil ?_
      refine wk_ret (rb r0) rfl rfl ⟨?_, hb⟩
      have h16 : S.take (min i 16) = S.take 16 := by
        rcases Nat.le_total S.length 16 with h | h
        · rw [List.take_of_length_le (by omega), List.take_of_length_le h]
        · rw [Nat.min_eq_right (by omega)]
      rw [← h16, ha]
  have c7 : cmp .eql f.kind 7 = some false := by simp [cmp, k7]
  have text : f.kind = 8 ∨ f.kind = 9 → sUsual (d + 1) f (.mk N S nl L U) = if 0 ≤ f.null then nl else S.isEmpty := by
    rintro (h | h) <;> simp [sUsual, h, Tree.S, Tree.nl]
  by_cases k8 : f.kind = 8
  · have c8 : cmp .eql f.kind 8 = some true := by simp [cmp, k8]
    rw [text (.inl k8)]
    obtain ⟨A, c, rfl, _⟩ := hS.form
    refine wk_seq ?_
    refine wk_reg (id := 0) ?_
    refine wk_box rfl rfl ?_
    refine wk_box rfl rfl ?_
    refine wk_assign rfl rfl ?_
    refine wk_nil ?_
    refine wk_seq ?_
    refine wk_seq ?_
    refine wk_reg (id := 1) ?_
    refine wk_field (f := 0) (i := Tryz.t3) rfl Tryz.underlying46 rfl (by kernel_rfl) (by decide) rfl ?_
    refine wk_load rfl Tryz.underlying3 rfl (by exact cell_blk (by with_reducible assumption) rfl) rfl ?_
    refine wk_nil ?_
    refine wk_block ?_
    refine wk_seq ?_
    refine wk_reg (id := 2) ?_
    refine wk_cmp rfl rfl (by with_reducible assumption) rfl ?_
    refine wk_assign rfl rfl ?_
    refine wk_nil ?_
    refine wk_condF rfl ?_
    refine wk_seq ?_
    refine wk_reg (id := 4) ?_
    refine wk_cmp rfl rfl (by with_reducible assumption) rfl ?_
    refine wk_assign rfl rfl ?_
    refine wk_nil ?_
    refine wk_condF rfl ?_
    refine wk_seq ?_
    refine wk_seq ?_
    refine wk_reg (id := 12) ?_
    refine wk_cmp rfl rfl (by with_reducible assumption) rfl ?_
    refine wk_assign rfl rfl ?_
    refine wk_nil ?_
    refine wk_condT rfl ?_
    refine wk_skip ?_
    refine wk_condT rfl ?_
    by_cases kn : 0 ≤ f.null
    · have cn : cmp .geq f.null 0 = some true := by simp [cmp, kn]
      refine wk_seq ?_
      refine wk_seq ?_
      refine wk_reg (id := 14) ?_
      refine wk_field (f := 3) (i := Tryz.t3) rfl Tryz.underlying46 rfl (by kernel_rfl) (by decide) rfl ?_
      refine wk_load rfl Tryz.underlying3 rfl (by exact cell_blk (by with_reducible assumption) rfl) rfl ?_
      refine wk_cmp rfl rfl (by with_reducible assumption) rfl ?_
      refine wk_nil ?_
      refine wk_condT rfl ?_
      refine wk_seq ?_
      refine wk_reg (id := 15) ?_
      refine wk_field (f := 2) (i := Tryz.t4) rfl Tryz.underlying26 rfl (by kernel_rfl) (by decide) rfl ?_
      refine wk_load rfl Tryz.underlying4 rfl (by exact cell_blk (by with_reducible assumption) rfl) rfl ?_
      refine wk_assign rfl rfl ?_
      refine wk_nil ?_
      exact wk_ret (rb r0) rfl rfl ⟨by rw [if_pos kn], hwk⟩
    · have cn : cmp .geq f.null 0 = some false := by simp [cmp, kn]
      refine wk_seq ?_
      refine wk_seq ?_
      refine wk_reg (id := 14) ?_
      refine wk_field (f := 3) (i := Tryz.t3) rfl Tryz.underlying46 rfl (by kernel_rfl) (by decide) rfl ?_
      refine wk_load rfl Tryz.underlying3 rfl (by exact cell_blk (by with_reducible assumption) rfl) rfl ?_
      refine wk_cmp rfl rfl (by with_reducible assumption) rfl ?_
      refine wk_nil ?_
      refine wk_condF rfl ?_
      refine wk_skip ?_
      refine wk_seq ?_
      refine wk_reg (id := 16) ?_
      refine wk_field (f := 1) (i := Tryz.t22) rfl Tryz.underlying26 rfl (by kernel_rfl) (by decide) rfl ?_
      refine wk_load rfl Tryz.underlying22 rfl (by exact cell_blk (by with_reducible assumption) rfl) rfl ?_
      refine wk_slen rfl Tryz.underlying22 rfl ?_
      refine wk_cmp rfl rfl rfl rfl ?_
      refine wk_assign rfl rfl ?_
      refine wk_nil ?_
      refine wk_ret (rb r0) rfl rfl ⟨?_, hwk⟩
      rw [if_neg kn]
      exact congrArg (fun b => Ending.returned (Value.bool b)) (len0 S)
  have c8 : cmp .eql f.kind 8 = some false := by simp [cmp, k8]
  by_cases k9 : f.kind = 9
  · have c9 : cmp .eql f.kind 9 = some true := by simp [cmp, k9]
    rw [text (.inr k9)]
    obtain ⟨A, c, rfl, _⟩ := hS.form
    refine wk_seq ?_
    refine wk_reg (id := 0) ?_
    refine wk_box rfl rfl ?_
    refine wk_box rfl rfl ?_
    refine wk_assign rfl rfl ?_
    refine wk_nil ?_
    refine wk_seq ?_
    refine wk_seq ?_
    refine wk_reg (id := 1) ?_
    refine wk_field (f := 0) (i := Tryz.t3) rfl Tryz.underlying46 rfl (by kernel_rfl) (by decide) rfl ?_
    refine wk_load rfl Tryz.underlying3 rfl (by exact cell_blk (by with_reducible assumption) rfl) rfl ?_
    refine wk_nil ?_
    refine wk_block ?_
    refine wk_seq ?_
    refine wk_reg (id := 2) ?_
    refine wk_cmp rfl rfl (by with_reducible assumption) rfl ?_
    refine wk_assign rfl rfl ?_
    refine wk_nil ?_
    refine wk_condF rfl ?_
    refine wk_seq ?_
    refine wk_reg (id := 4) ?_
    refine wk_cmp rfl rfl (by with_reducible assumption) rfl ?_
    refine wk_assign rfl rfl ?_
    refine wk_nil ?_
    refine wk_condF rfl ?_
    refine wk_seq ?_
    refine wk_seq ?_
    refine wk_reg (id := 12) ?_
    refine wk_cmp rfl rfl (by with_reducible assumption) rfl ?_
    refine wk_assign rfl rfl ?_
    refine wk_nil ?_
    refine wk_condF rfl ?_
    refine wk_reg (id := 13) ?_
    refine wk_cmp rfl rfl (by with_reducible assumption) rfl ?_
    refine wk_assign rfl rfl ?_
    refine wk_nil ?_
    refine wk_condT rfl ?_
    by_cases kn : 0 ≤ f.null
    · have cn : cmp .geq f.null 0 = some true := by simp [cmp, kn]
      refine wk_seq ?_
      refine wk_seq ?_
      refine wk_reg (id := 14) ?_
      refine wk_field (f := 3) (i := Tryz.t3) rfl Tryz.underlying46 rfl (by kernel_rfl) (by decide) rfl ?_
      refine wk_load rfl Tryz.underlying3 rfl (by exact cell_blk (by with_reducible assumption) rfl) rfl ?_
      refine wk_cmp rfl rfl (by with_reducible assumption) rfl ?_
      refine wk_nil ?_
      refine wk_condT rfl ?_
      refine wk_seq ?_
      refine wk_reg (id := 15) ?_
      refine wk_field (f := 2) (i := Tryz.t4) rfl Tryz.underlying26 rfl (by kernel_rfl) (by decide) rfl ?_
      refine wk_load rfl Tryz.underlying4 rfl (by exact cell_blk (by with_reducible assumption) rfl) rfl ?_
      refine wk_assign rfl rfl ?_
      refine wk_nil ?_
      exact wk_ret (rb r0) rfl rfl ⟨by rw [if_pos kn], hwk⟩
    · have cn : cmp .geq f.null 0 = some false := by simp [cmp, kn]
      refine wk_seq ?_
      refine wk_seq ?_
      refine wk_reg (id := 14) ?_
      refine wk_field (f := 3) (i := Tryz.t3) rfl Tryz.underlying46 rfl (by kernel_rfl) (by decide) rfl ?_
      refine wk_load rfl Tryz.underlying3 rfl (by exact cell_blk (by with_reducible assumption) rfl) rfl ?_
      refine wk_cmp rfl rfl (by with_reducible assumption) rfl ?_
      refine wk_nil ?_
      refine wk_condF rfl ?_
      refine wk_skip ?_
      refine wk_seq ?_
      refine wk_reg (id := 16) ?_
      refine wk_field (f := 1) (i := Tryz.t22) rfl Tryz.underlying26 rfl (by kernel_rfl) (by decide) rfl ?_
      refine wk_load rfl Tryz.underlying22 rfl (by exact cell_blk (by with_reducible assumption) rfl) rfl ?_
      refine wk_slen rfl Tryz.underlying22 rfl ?_
      refine wk_cmp rfl rfl rfl rfl ?_
      refine wk_assign rfl rfl ?_
      refine wk_nil ?_
      refine wk_ret (rb r0) rfl rfl ⟨?_, hwk⟩
      rw [if_neg kn]
      exact congrArg (fun b => Ending.returned (Value.bool b)) (len0 S)
  have c9 : cmp .eql f.kind 9 = some false := by simp [cmp, k9]
  by_cases k11 : f.kind = 11
  · have c11 : cmp .eql f.kind 11 = some true := by simp [cmp, k11]
    have hsu : sUsual (d + 1) f (.mk N S nl L U) = L.isEmpty := by simp [sUsual, k11, Tree.L]
    rw [hsu]
    obtain ⟨A, c, rfl, _⟩ := hL
    refine wk_seq ?_
    refine wk_reg (id := 0) ?_
    refine wk_box rfl rfl ?_
    refine wk_box rfl rfl ?_
    refine wk_assign rfl rfl ?_
    refine wk_nil ?_
    refine wk_seq ?_
    refine wk_seq ?_
    refine wk_reg (id := 1) ?_
    refine wk_field (f := 0) (i := Tryz.t3) rfl Tryz.underlying46 rfl (by kernel_rfl) (by decide) rfl ?_
    refine wk_load rfl Tryz.underlying3 rfl (by exact cell_blk (by with_reducible assumption) rfl) rfl ?_
    refine wk_nil ?_
    refine wk_block ?_
    refine wk_seq ?_
    refine wk_reg (id := 2) ?_
    refine wk_cmp rfl rfl (by with_reducible assumption) rfl ?_
    refine wk_assign rfl rfl ?_
    refine wk_nil ?_
    refine wk_condF rfl ?_
    refine wk_seq ?_
    refine wk_reg (id := 4) ?_
    refine wk_cmp rfl rfl (by with_reducible assumption) rfl ?_
    refine wk_assign rfl rfl ?_
    refine wk_nil ?_
    refine wk_condF rfl ?_
    refine wk_seq ?_
    refine wk_seq ?_
    refine wk_reg (id := 12) ?_
    refine wk_cmp rfl rfl (by with_reducible assumption) rfl ?_
    refine wk_assign rfl rfl ?_
    refine wk_nil ?_
    refine wk_condF rfl ?_
    refine wk_reg (id := 13) ?_
    refine wk_cmp rfl rfl (by with_reducible assumption) rfl ?_
    refine wk_assign rfl rfl ?_
    refine wk_nil ?_
    refine wk_condF rfl ?_
    refine wk_seq ?_
    refine wk_reg (id := 17) ?_
    refine wk_cmp rfl rfl (by with_reducible assumption) rfl ?_
    refine wk_assign rfl rfl ?_
    refine wk_nil ?_
    refine wk_condT rfl ?_
    refine wk_seq ?_
    refine wk_reg (id := 18) ?_
    refine wk_field (f := 3) (i := Tryz.t23) rfl Tryz.underlying26 rfl (by kernel_rfl) (by decide) rfl ?_
    refine wk_load rfl Tryz.underlying23 rfl (by exact cell_blk (by with_reducible assumption) rfl) rfl ?_
    refine wk_slen rfl Tryz.underlying23 rfl ?_
    refine wk_cmp rfl rfl rfl rfl ?_
    refine wk_assign rfl rfl ?_
    refine wk_nil ?_
    refine wk_ret (rb r0) rfl rfl ⟨?_, hwk⟩
    exact congrArg (fun b => Ending.returned (Value.bool b)) (len0 L)
  have c11 : cmp .eql f.kind 11 = some false := by simp [cmp, k11]
  by_cases k10 : f.kind = 10
  · have c10 : cmp .eql f.kind 10 = some true := by simp [cmp, k10]
    have hsu : sUsual (d + 1) f (.mk N S nl L U) = (sUsualAll (sUsual d) (.mk N S nl L U) f.sub 0 && (sUnknown f.sub U).isEmpty) := by simp [sUsual, k10, Tree.U]
    rw [hsu]
    cases d with
    | zero => cases hfs
    | succ d =>
    have hu := ih d rfl
    have htags := fsB_tags hfs
    have hF0 := hF
    obtain ⟨A, c, rfl⟩ := hF.form
    refine wk_seq ?_
    refine wk_reg (id := 0) ?_
    refine wk_box rfl rfl ?_
    refine wk_box rfl rfl ?_
    refine wk_assign rfl rfl ?_
    refine wk_nil ?_
    refine wk_seq ?_
    refine wk_seq ?_
    refine wk_reg (id := 1) ?_
    refine wk_field (f := 0) (i := Tryz.t3) rfl Tryz.underlying46 rfl (by kernel_rfl) (by decide) rfl ?_
    refine wk_load rfl Tryz.underlying3 rfl (by exact cell_blk (by with_reducible assumption) rfl) rfl ?_
    refine wk_nil ?_
    refine wk_block ?_
    refine wk_seq ?_
    refine wk_reg (id := 2) ?_
    refine wk_cmp rfl rfl (by with_reducible assumption) rfl ?_
    refine wk_assign rfl rfl ?_
    refine wk_nil ?_
    refine wk_condF rfl ?_
    refine wk_seq ?_
    refine wk_reg (id := 4) ?_
    refine wk_cmp rfl rfl (by with_reducible assumption) rfl ?_
    refine wk_assign rfl rfl ?_
    refine wk_nil ?_
    refine wk_condF rfl ?_
    refine wk_seq ?_
    refine wk_seq ?_
    refine wk_reg (id := 12) ?_
    refine wk_cmp rfl rfl (by with_reducible assumption) rfl ?_
    refine wk_assign rfl rfl ?_
    refine wk_nil ?_
    refine wk_condF rfl ?_
    refine wk_reg (id := 13) ?_
    refine wk_cmp rfl rfl (by with_reducible assumption) rfl ?_
    refine wk_assign rfl rfl ?_
    refine wk_nil ?_
    refine wk_condF rfl ?_
    refine wk_seq ?_
    refine wk_reg (id := 17) ?_
    refine wk_cmp rfl rfl (by with_reducible assumption) rfl ?_
    refine wk_assign rfl rfl ?_
    refine wk_nil ?_
    refine wk_condF rfl ?_
    refine wk_seq ?_
    refine wk_reg (id := 19) ?_
    refine wk_cmp rfl rfl (by with_reducible assumption) rfl ?_
    refine wk_assign rfl rfl ?_
    refine wk_nil ?_
    refine wk_condT rfl ?_
    refine wk_seq ?_
    refine wk_seq ?_
    refine wk_reg (id := 20) ?_
    refine wk_field (f := 7) (i := Tryz.t31) rfl Tryz.underlying46 rfl (by kernel_rfl) (by decide) rfl ?_
    refine wk_load rfl Tryz.underlying31 rfl (by exact cell_blk (by with_reducible assumption) rfl) rfl ?_
    refine wk_slen rfl Tryz.underlying31 rfl ?_
    refine wk_move rfl rfl ?_
    refine wk_nil ?_
    refine wk_loop (fun i : Nat => [(2, .pointer (some ⟨w.heap.size, 0, none⟩)), (3, .pointer (some ⟨(w.alloc (.cells (Value.agg (fldV f (.slice A f.sub.length c)).toArray).cells 46)).heap.size, 0, none⟩)), (57, .slice A f.sub.length c), (58, .int .i64 (f.sub.length : Int)), (59, .int .i64 (i : Int))])
      (fun i w' => i ≤ f.sub.length ∧ sUsualAll (sUsual (d + 1)) (.mk N S nl L U) (f.sub.drop i) i = sUsualAll (sUsual (d + 1)) (.mk N S nl L U) f.sub 0 ∧ w'.heap[w.heap.size]? = some (.cells (fldV f (.slice A f.sub.length c)).toArray 46 (0, 0)) ∧
        w'.heap[(w.alloc (.cells (Value.agg (fldV f (.slice A f.sub.length c)).toArray).cells 46)).heap.size]? = some (.cells #[.int .i64 N, v1, .bool nl, v2, v3] 26 (0, 0)) ∧ Below w.heap.size w w') (fun i => f.sub.length - i) 0
      rfl ⟨Nat.zero_le _, rfl, hF1, hT1, hwk⟩ ?_
    rintro i w1 ⟨hi, ha, hFw, hTw, hb⟩
    by_cases hlt : i < f.sub.length
    · have c2 : cmp .lss (i : Int) (f.sub.length : Int) = some true := by simp [cmp, hlt]
      obtain ⟨b, c2, sv2, e1, hbb, hsub, hcell⟩ := hF0.at hlt
      simp only [Value.slice.injEq] at e1
      obtain ⟨rfl, _, rfl⟩ := e1
      have hcell1 : ∀ j u, (fldV f.sub[i] sv2)[j]? = some u → w1.cell? ((⟨b, 0 + i * 8, none⟩ : Addr).add j) = some u := fun j u hj => (World.cell?_of_block (by rw [add_addr]; exact hb.block b hbb)).trans (hcell j u hj)
      have hnx : IntKind.i64.wrap ((i : Int) + 1) = ((i + 1 : Nat) : Int) := i64w ((i : Int) + 1) (by omega) (by omega)
      have hdrop : f.sub.drop i = f.sub[i] :: f.sub.drop (i + 1) := List.drop_eq_getElem_cons hlt
      rw [hdrop, sUsualAll] at ha
      refine wk_seq ?_
      refine wk_reg (id := 21) ?_
      refine wk_cmp rfl rfl (by with_reducible assumption) rfl ?_
      refine wk_nil ?_
      refine wk_seq ?_
      refine wk_condT rfl ?_
      refine wk_skip ?_
      refine wk_seq ?_
      refine wk_block ?_
      refine wk_seq ?_
      refine wk_reg (id := 22) ?_
      refine wk_move rfl rfl ?_
      refine wk_idx (i := Tryz.t46) rfl rfl Tryz.underlying31 (by kernel_rfl) hlt rfl ?_
      refine wk_loadA (i := Tryz.t46) rfl Tryz.underlying46 rfl (by kernel_rfl) (vs := fldV f.sub[i] sv2) rfl hcell1 rfl ?_
      refine wk_alloc (t := 46) (i := Tryz.t46) (by kernel_rfl) rfl rfl ?_
      refine wk_assign rfl rfl ?_
      refine wk_storeNew (i := Tryz.t46) rfl rfl (by kernel_rfl) rfl rfl (fldV_one hsub.one) ?_
      refine wk_nil ?_
      refine wk_seq ?_
      have hb2 := hb.trans ((below1 w1 (.cells (fldV f.sub[i] sv2).toArray 46)).mono hb.size)
      have hG2 : (w1.alloc (.cells (fldV f.sub[i] sv2).toArray 46)).heap[w1.heap.size]? = some (.cells (fldV f.sub[i] sv2).toArray 46 (0, 0)) := heap_alloc_last _ _
      have hFw2 := (Below.heap_alloc w1 (.cells (fldV f.sub[i] sv2).toArray 46) _ (lt_of_some hFw)).trans hFw
      have hTw2 := (Below.heap_alloc w1 (.cells (fldV f.sub[i] sv2).toArray 46) _ (lt_of_some hTw)).trans hTw
      refine wk_draw (fun w' => w'.heap[w1.heap.size]? = some (.cells (fldV f.sub[i] sv2).toArray 46 (0, 0)) ∧ w'.heap[(w.alloc (.cells (Value.agg (fldV f (.slice (some ⟨b, 0, none⟩) f.sub.length c)).toArray).cells 46)).heap.size]? = some (.cells #[.int .i64 N, v1, .bool nl, v2, v3] 26 (0, 0)))
        [(0, true), (1, true), (2, true), (3, false), (4, false), (5, true)] mixed (pqb (pql (pqb pq0))) (by kernel_rfl) (by kernel_rfl) (by kernel_rfl) (fun w5 h5 _ => ⟨by rw [h5]; exact hG2, by rw [h5]; exact hTw2⟩) ?_
      intro w2 h2 hbd
      have hb3 := hb2.trans (hbd.mono hb2.size)
      refine wd_loadA (ti := Tryz.t46) rfl rfl Tryz.underlying46 rfl (by kernel_rfl) (vs := fldV f.sub[i] sv2) rfl (fun w' hS => cells_blk hS.1) rfl ?_
      refine wd_loadA (ti := Tryz.t26) rfl rfl Tryz.underlying26 rfl (by kernel_rfl) (vs := [.int .i64 N, v1, .bool nl, v2, v3]) rfl (fun w' hS => cells_blk hS.2) rfl ?_
      refine wd_move rfl rfl rfl ?_
      refine wd_call rfl Tryz.call23 (vs := [.agg #[.int .i64 N, v1, .bool nl, v2, v3], .int .i64 (i : Int)]) rfl rfl ((at_any w2 X [.int .i64 N, v1, .bool nl, v2, v3] (.mk N S nl L U) i (hT0.keep (keeps_below hb3 (Nat.le_refl _)))).mono ?_)
      rintro e w3 ⟨us, rfl, hus, hbc⟩
      have hG3 : w2.heap[w1.heap.size]? = some (.cells (fldV f.sub[i] sv2).toArray 46 (0, 0)) := by rw [h2]; exact hG2
      have hF3 : w2.heap[w.heap.size]? = some (.cells (fldV f (.slice (some ⟨b, 0, none⟩) f.sub.length c)).toArray 46 (0, 0)) := by rw [h2]; exact hFw2
      have hT3 : w2.heap[(w.alloc (.cells (Value.agg (fldV f (.slice (some ⟨b, 0, none⟩) f.sub.length c)).toArray).cells 46)).heap.size]? = some (.cells #[.int .i64 N, v1, .bool nl, v2, v3] 26 (0, 0)) := by rw [h2]; exact hTw2
      have hG4 := (hbc.block _ (lt_of_some hG3)).trans hG3
      have hF4 := (hbc.block _ (lt_of_some hF3)).trans hF3
      have hT4 := (hbc.block _ (lt_of_some hT3)).trans hT3
      have hb4 := hb3.trans (hbc.mono hb3.size)
      refine ⟨_, rfl, ⟨hG4, hT4⟩, ?_⟩
      refine wd_call rfl Tryz.call25 (vs := [.agg (fldV f.sub[i] sv2).toArray, .agg us.toArray]) rfl rfl ((hu w3 X f.sub[i] sv2 us (sAt (.mk N S nl L U) i) (hsub.keep (keeps_below hb4 (Nat.le_refl _))) hus (fsB_sub hfs (List.getElem_mem hlt)) (hok.at h0 i)).mono ?_)
      rintro e w4 ⟨rfl, hbe⟩
      have hG5 := (hbe.block _ (lt_of_some hG4)).trans hG4
      have hF5 := (hbe.block _ (lt_of_some hF4)).trans hF4
      have hT5 := (hbe.block _ (lt_of_some hT4)).trans hT4
      have hb5 := hb4.trans (hbe.mono hb4.size)
      refine ⟨_, rfl, ⟨hG5, hT5⟩, ?_⟩
      refine wd_not rfl rfl rfl ?_
      refine wd_done ?_
      cases hx : sUsual (d + 1) f.sub[i] (sAt (.mk N S nl L U) i) with
      | false =>
        refine wk_condT rfl ?_
        refine wk_seq ?_
        refine wk_reg (id := 24) ?_
        refine wk_assign rfl rfl ?_
        refine wk_nil ?_
        refine wk_ret (rb (rl (rb r0))) rfl rfl ⟨?_, hb5⟩
        rw [hx, Bool.false_and] at ha
        rw [← ha, Bool.false_and]
      | true =>
        refine wk_condF rfl ?_
        refine wk_skip ?_
        refine wk_blockEnd ?_
        refine wk_reg (id := 25) ?_
        refine wk_add rfl rfl rfl ?_
        refine wk_move rfl rfl ?_
        refine wk_nil ?_
        refine wk_loopNext (i + 1) (by omega) (congrArg (fun z => [some (Value.pointer (some ⟨w.heap.size, 0, none⟩)), some (Value.pointer (some ⟨(w.alloc (.cells (Value.agg (fldV f (.slice (some ⟨b, 0, none⟩) f.sub.length c)).toArray).cells 46)).heap.size, 0, none⟩)), some (Value.slice (some ⟨b, 0, none⟩) f.sub.length c), some (Value.int .i64 (f.sub.length : Int)), some (Value.int .i64 z)]) hnx)
          ⟨by omega, ?_, hF5, hT5, hb5⟩
        rw [hx, Bool.true_and] at ha
        exact ha
    · have c2 : cmp .lss (i : Int) (f.sub.length : Int) = some false := by simp [cmp]; omega
      rw [List.drop_of_length_le (by omega), sUsualAll] at ha
      refine wk_seq ?_
      refine wk_reg (id := 21) ?_
      refine wk_cmp rfl rfl (by with_reducible assumption) rfl ?_
      refine wk_nil ?_
      refine wk_seq ?_
      refine wk_condF rfl ?_
      refine wk_loopExit ?_
      refine wk_seq ?_
      refine wk_reg (id := 26) ?_
      refine wk_field (f := 7) (i := Tryz.t31) rfl Tryz.underlying46 rfl (by kernel_rfl) (by decide) rfl ?_
      refine wk_load rfl Tryz.underlying31 rfl (by exact cell_blk (by with_reducible assumption) rfl) rfl ?_
      refine wk_field (f := 4) (i := Tryz.t24) rfl Tryz.underlying26 rfl (by kernel_rfl) (by decide) rfl ?_
      refine wk_load rfl Tryz.underlying24 rfl (by exact cell_blk (by with_reducible assumption) rfl) rfl ?_
      refine wk_call Tryz.call27 (vs := [.slice A f.sub.length c, v3]) rfl rfl ((hU w1 X (.slice A f.sub.length c) f.sub v3 U (hF0.keep (keeps_below hb (Nat.le_refl _))) htags.1 htags.2 (hUr.keep (keeps_below hb (Nat.le_refl _))) hGU).mono ?_)
      rintro e w2 ⟨v', rfl, hv', hb2⟩
      obtain ⟨vals, ⟨A', c', rfl, _⟩, _⟩ := hv'
      refine ⟨_, rfl, ?_⟩
      refine wk_slen rfl Tryz.underlying24 rfl ?_
      refine wk_cmp rfl rfl rfl rfl ?_
      refine wk_assign rfl rfl ?_
      refine wk_nil ?_
      refine wk_ret (rb r0) rfl rfl ⟨?_, hb.trans (hb2.mono hb.size)⟩
      rw [← ha, Bool.true_and]
      exact congrArg (fun b => Ending.returned (Value.bool b)) (len0 (sUnknown f.sub U))
  have c10 : cmp .eql f.kind 10 = some false := by simp [cmp, k10]
  have hsu : sUsual (d + 1) f (.mk N S nl L U) = (be (sWidth f.kind) N == be (sWidth f.kind) f.dflt) := by simp [sUsual, k0, k7, k8, k9, k10, k11, Tree.N]
  rw [hsu]
  refine wk_seq ?_
  refine wk_reg (id := 0) ?_
  refine wk_box rfl rfl ?_
  refine wk_box rfl rfl ?_
  refine wk_assign rfl rfl ?_
  refine wk_nil ?_
  refine wk_seq ?_
  refine wk_seq ?_
  refine wk_reg (id := 1) ?_
  refine wk_field (f := 0) (i := Tryz.t3) rfl Tryz.underlying46 rfl (by kernel_rfl) (by decide) rfl ?_
  refine wk_load rfl Tryz.underlying3 rfl (by exact cell_blk (by with_reducible assumption) rfl) rfl ?_
  refine wk_nil ?_
  refine wk_block ?_
  refine wk_seq ?_
  refine wk_reg (id := 2) ?_
  refine wk_cmp rfl rfl (by with_reducible assumption) rfl ?_
  refine wk_assign rfl rfl ?_
  refine wk_nil ?_
  refine wk_condF rfl ?_
  refine wk_seq ?_
  refine wk_reg (id := 4) ?_
  refine wk_cmp rfl rfl (by with_reducible assumption) rfl ?_
  refine wk_assign rfl rfl ?_
  refine wk_nil ?_
  refine wk_condF rfl ?_
  refine wk_seq ?_
  refine wk_seq ?_
  refine wk_reg (id := 12) ?_
  refine wk_cmp rfl rfl (by with_reducible assumption) rfl ?_
  refine wk_assign rfl rfl ?_
  refine wk_nil ?_
  refine wk_condF rfl ?_
  refine wk_reg (id := 13) ?_
  refine wk_cmp rfl rfl (by with_reducible assumption) rfl ?_
  refine wk_assign rfl rfl ?_
  refine wk_nil ?_
  refine wk_condF rfl ?_
  refine wk_seq ?_
  refine wk_reg (id := 17) ?_
  refine wk_cmp rfl rfl (by with_reducible assumption) rfl ?_
  refine wk_assign rfl rfl ?_
  refine wk_nil ?_
  refine wk_condF rfl ?_
  refine wk_seq ?_
  refine wk_reg (id := 19) ?_
  refine wk_cmp rfl rfl (by with_reducible assumption) rfl ?_
  refine wk_assign rfl rfl ?_
  refine wk_nil ?_
  refine wk_condF rfl ?_
  refine wk_skip ?_
  refine wk_blockEnd ?_
  refine wk_seq ?_
  refine wk_draw (fun w' => w'.heap[w.heap.size]? = some (.cells (fldV f sv).toArray 46 (0, 0)) ∧ w'.heap[(w.alloc (.cells (Value.agg (fldV f sv).toArray).cells 46)).heap.size]? = some (.cells #[.int .i64 N, v1, .bool nl, v2, v3] 26 (0, 0)))
    [(0, true), (1, true), (2, true), (3, true), (6, true), (7, true), (8, true), (9, true), (4, false), (5, false), (10, false), (11, false), (12, false), (13, true)] mixed pq0 (by kernel_rfl) (by kernel_rfl) (by kernel_rfl) (fun w5 h5 _ => ⟨by rw [h5]; exact hF1, by rw [h5]; exact hT1⟩) ?_
  intro w2 h2 hb2
  have hbw2 := hwk.trans (hb2.mono hwk.size)
  have hF2 : w2.heap[w.heap.size]? = some (.cells (fldV f sv).toArray 46 (0, 0)) := by rw [h2]; exact hF1
  have hT2 : w2.heap[(w.alloc (.cells (Value.agg (fldV f sv).toArray).cells 46)).heap.size]? = some (.cells #[.int .i64 N, v1, .bool nl, v2, v3] 26 (0, 0)) := by rw [h2]; exact hT1
  refine wd_field (f := 0) (ti := Tryz.t2) rfl rfl Tryz.underlying26 rfl (by kernel_rfl) (by decide) rfl ?_
  refine wd_load rfl rfl Tryz.underlying2 rfl (fun _ hS => cell_blk hS.2 rfl) rfl ?_
  refine wd_field (f := 0) (ti := Tryz.t3) rfl rfl Tryz.underlying46 rfl (by kernel_rfl) (by decide) rfl ?_
  refine wd_load rfl rfl Tryz.underlying3 rfl (fun _ hS => cell_blk hS.1 rfl) rfl ?_
  refine wd_field (f := 5) (ti := Tryz.t2) rfl rfl Tryz.underlying46 rfl (by kernel_rfl) (by decide) rfl ?_
  refine wd_load rfl rfl Tryz.underlying2 rfl (fun _ hS => cell_blk hS.1 rfl) rfl ?_
  refine wd_field (f := 0) (ti := Tryz.t3) rfl rfl Tryz.underlying46 rfl (by kernel_rfl) (by decide) rfl ?_
  refine wd_load rfl rfl Tryz.underlying3 rfl (fun _ hS => cell_blk hS.1 rfl) rfl ?_
  refine wd_call rfl Tryz.call51 (vs := [.int .i64 f.kind]) rfl rfl ((width_any w2 f.kind).mono ?_)
  rintro e w3 ⟨rfl, rfl⟩
  refine ⟨_, rfl, ⟨hF2, hT2⟩, ?_⟩
  refine wd_call rfl Tryz.call49 (vs := [.int .i64 N, .int .i64 ((sWidth f.kind : Nat) : Int)]) rfl rfl ((Fixed_any w3 N (sWidth f.kind) (sWidth_le _)).mono ?_)
  rintro e w4 ⟨d4, rfl, ho4, hb4⟩
  have hF4 := (hb4.block _ (lt_of_some hF2)).trans hF2
  have hT4 := (hb4.block _ (lt_of_some hT2)).trans hT2
  refine ⟨_, rfl, ⟨hF4, hT4⟩, ?_⟩
  refine wd_call rfl Tryz.call51 (vs := [.int .i64 f.kind]) rfl rfl ((width_any w4 f.kind).mono ?_)
  rintro e w5 ⟨rfl, rfl⟩
  refine ⟨_, rfl, ⟨hF4, hT4⟩, ?_⟩
  refine wd_call rfl Tryz.call49 (vs := [.int .i64 f.dflt, .int .i64 ((sWidth f.kind : Nat) : Int)]) rfl rfl ((Fixed_any w5 f.dflt (sWidth f.kind) (sWidth_le _)).mono ?_)
  rintro e w6 ⟨d6, rfl, ho6, hb6⟩
  have hF6 := (hb6.block _ (lt_of_some hF4)).trans hF4
  have hT6 := (hb6.block _ (lt_of_some hT4)).trans hT4
  refine ⟨_, rfl, ⟨hF6, hT6⟩, ?_⟩
  have hr4 : BytesRep0 w5 (fun _ => False) d4 (be (sWidth f.kind) N) := (OwnC.of_own ho4).bytes (fun _ _ _ h => h)
  have hr6 : BytesRep0 w6 (fun _ => False) d6 (be (sWidth f.kind) f.dflt) := (OwnC.of_own ho6).bytes (fun _ _ _ h => h)
  have hbl : ∀ n, (be (sWidth f.kind) n).length ≤ lim := fun n => by rw [be_length, lim_eq]; have := sWidth_le f.kind; omega
  have hbw6 := (hbw2.trans (hb4.mono hbw2.size)).trans (hb6.mono (hbw2.trans (hb4.mono hbw2.size)).size)
  refine wd_call rfl Tryz.call50 (vs := [d4, d6]) rfl rfl ((Same_any w6 _ _ d4 d6 _ _ (hr4.keep (keeps_below hb6 (Nat.le_refl _))) hr6 (hbl _) (hbl _)).mono ?_)
  rintro e w7 ⟨rfl, hb7⟩
  have hF7 := (hb7.block _ (lt_of_some hF6)).trans hF6
  have hT7 := (hb7.block _ (lt_of_some hT6)).trans hT6
  refine ⟨_, rfl, ⟨hF7, hT7⟩, ?_⟩
  refine wd_assign rfl rfl rfl ?_
  refine wd_done ?_
  exact wk_ret r0 rfl rfl ⟨rfl, hbw6.trans (hb7.mono hbw6.size)⟩
end Go.Proofs.YthejiimocbfagabGreatDoor
