/-
  The reference: tags that nobody knows, where there are none; Write.
-/
import Derived.Test.YthejiimocbfagabGreatDoorSpec7
set_option linter.unusedVariables false
set_option linter.unusedSimpArgs false
namespace Go.Proofs.YthejiimocbfagabGreatDoor
open Go Go.RowKit Go.Proofs.Eng
set_option maxRecDepth 20000
set_option maxHeartbeats 4000000

theorem unknown_none : UnkC (fun l => l = []) := by
  intro w X v fs tv l hF htags hlen hU hl
  subst hl
  obtain ⟨vals, ⟨A, c, rfl, hc, hnil, hat⟩, _⟩ := hU
  refine calls_wk (args := [v, .slice A 0 c]) Tryz.func27 rfl rfl ?_
  refine wk_seq ?_
  refine wk_reg (id := 0) ?_
  refine wk_assign rfl rfl ?_
  refine wk_nil ?_
  refine wk_seq ?_
  refine wk_reg (id := 1) ?_
  refine wk_move rfl rfl ?_
  refine wk_call Tryz.call24 (vs := [v]) rfl rfl ((known_any w X _ fs hF htags hlen).mono ?_)
  rintro e w1 ⟨rfl, hb⟩
  refine ⟨_, rfl, ?_⟩
  refine wk_assign rfl rfl ?_
  refine wk_nil ?_
  refine wk_seq ?_
  refine wk_reg (id := 2) ?_
  refine wk_assign rfl rfl ?_
  refine wk_nil ?_
  refine wk_seq ?_
  refine wk_seq ?_
  refine wk_reg (id := 3) ?_
  refine wk_move rfl rfl ?_
  refine wk_move rfl rfl ?_
  refine wk_slen rfl Tryz.underlying24 rfl ?_
  refine wk_min rfl rfl rfl ?_
  refine wk_sliceH (m := 0) (i := Tryz.t55) rfl rfl Tryz.underlying24 (by kernel_rfl) (Nat.zero_le _) rfl ?_
  refine wk_slen rfl Tryz.underlying24 rfl ?_
  refine wk_move rfl rfl ?_
  refine wk_nil ?_
  refine wk_loop (fun _ : Unit => [(6, .slice none 0 0), (18, .int .i64 0), (19, .int .i64 0)]) (fun _ w' => w' = w1) (fun _ => 0) () rfl rfl ?_
  rintro _ _ rfl
  refine wk_seq ?_
  refine wk_reg (id := 4) ?_
  refine wk_cmp rfl rfl rfl rfl ?_
  refine wk_nil ?_
  refine wk_seq ?_
  refine wk_condF rfl ?_
  refine wk_loopExit ?_
  refine wk_seq ?_
  refine wk_reg (id := 17) ?_
  refine wk_move rfl rfl ?_
  refine wk_assign rfl rfl ?_
  refine wk_nil ?_
  exact wk_ret r0 rfl rfl ⟨_, rfl, ⟨fun _ => undef, ⟨none, 0, rfl, Nat.le_refl _, fun _ => ⟨rfl, rfl⟩, fun i hi => by simp [sUnknown] at hi⟩, fun i t h => by simp [sUnknown] at h⟩, hb⟩

def WriteC (G : List (Nat × List UInt8) → Prop) : Prop :=
  ∀ (d : Nat) (w : World) (X : Nat → Prop) (v : Value) (fs : List Fld) (flex0 : Int) (ver : Int) (vs : List Value) (t : Tree), FRep w X v fs → TRep w X vs t → fsB d fs = true → TOk G t → (sWrite d fs flex0 ver t).length ≤ lim →
    Calls Tryz.prog 6 #[.agg #[v, .int .i64 flex0], .int .i64 ver, .agg vs.toArray] w fun e w' => ∃ d', e = .returned d' ∧ Own w' w.heap.size 5 d' (sWrite d fs flex0 ver t) ∧ Below w.heap.size w w'
theorem write_any {G : List (Nat × List UInt8) → Prop} (h0 : G []) (hU : UnkC G) : WriteC G := by
  intro d w X v fs flex0 ver vs t hF hT hfs hok hlen
  have hT0 := hT
  obtain ⟨N, S, nl, L, U, v1, v2, v3, cells, hN, hS, hL, hUr, hr⟩ := hT
  refine calls_wk (args := [.agg #[v, .int .i64 flex0], .int .i64 ver, .agg #[.int .i64 N, v1, .bool nl, v2, v3]]) Tryz.func6 rfl rfl ?_
  have hwk : Below w.heap.size w ((w.alloc (.cells (Value.agg #[v, .int .i64 flex0]).cells 33)).alloc (.cells (Value.agg #[.int .i64 N, v1, .bool nl, v2, v3]).cells 26)) := below2 _ _ _
  have call : ∀ flex, flex = (decide (0 ≤ flex0) && decide (flex0 ≤ ver)) → Calls Tryz.prog 13 #[v, .int .i64 ver, .bool flex, .agg #[.int .i64 N, v1, .bool nl, v2, v3]]
      ((w.alloc (.cells (Value.agg #[v, .int .i64 flex0]).cells 33)).alloc (.cells (Value.agg #[.int .i64 N, v1, .bool nl, v2, v3]).cells 26))
      fun e w' => ∃ d', e = .returned d' ∧ Own w' w.heap.size 5 d' (sWrite d fs flex0 ver (.mk N S nl L U)) ∧ Below w.heap.size w w' := by
    rintro flex rfl
    refine (part_all h0 hU d _ X v fs [.int .i64 N, v1, .bool nl, v2, v3] (.mk N S nl L U) ver _ (hF.keep (keeps_below hwk (Nat.le_refl _))) (hT0.keep (keeps_below hwk (Nat.le_refl _))) hfs hok hlen).mono ?_
    rintro e w' ⟨d', rfl, ho, hb⟩
    exact ⟨d', rfl, own_mono ho hwk.size, hwk.trans (hb.mono hwk.size)⟩
  by_cases h1 : 0 ≤ flex0
  · have c1 : cmp .geq flex0 0 = some true := by simp [cmp, h1]
    by_cases h2 : flex0 ≤ ver
    · have c2 : cmp .geq ver flex0 = some true := by simp [cmp, h2]
      refine wk_seq ?_
      refine wk_reg (id := 0) ?_
      refine wk_box rfl rfl ?_
      refine wk_box rfl rfl ?_
      refine wk_assign rfl rfl ?_
      refine wk_nil ?_
      refine wk_seq ?_
      refine wk_reg (id := 1) ?_
      refine wk_field (f := 0) (i := Tryz.t31) rfl Tryz.underlying33 rfl (by kernel_rfl) (by decide) rfl ?_
      refine wk_load rfl Tryz.underlying31 rfl (by exact cell_new2 rfl) rfl ?_
      refine wk_move rfl rfl ?_
      refine wk_field (f := 1) (i := Tryz.t3) rfl Tryz.underlying33 rfl (by kernel_rfl) (by decide) rfl ?_
      refine wk_load rfl Tryz.underlying3 rfl (by exact cell_new2 rfl) rfl ?_
      refine wk_cmp rfl rfl (by with_reducible assumption) rfl ?_
      refine wk_move rfl rfl ?_
      refine wk_gT rfl ?_; refine wk_move rfl rfl ?_
      refine wk_gT rfl ?_; refine wk_field (f := 1) (i := Tryz.t3) rfl Tryz.underlying33 rfl (by kernel_rfl) (by decide) rfl ?_
      refine wk_gT rfl ?_; refine wk_load rfl Tryz.underlying3 rfl (by exact cell_new2 rfl) rfl ?_
      refine wk_gT rfl ?_; refine wk_cmp rfl rfl (by with_reducible assumption) rfl ?_
      refine wk_pick rfl rfl rfl rfl ?_
      refine wk_loadA (i := Tryz.t26) rfl Tryz.underlying26 rfl (by kernel_rfl) rfl (by exact cells_new) rfl ?_
      refine wk_call Tryz.call13 (vs := [v, .int .i64 ver, .bool true, .agg #[.int .i64 N, v1, .bool nl, v2, v3]]) rfl rfl ((call true (by simp [h1, h2])).mono ?_)
      rintro e w2 ⟨d2, rfl, ho2, hb2⟩
      refine ⟨d2, rfl, ?_⟩
      refine wk_assign rfl rfl ?_
      refine wk_nil ?_
      exact wk_ret r0 rfl rfl ⟨d2, rfl, ho2, hb2⟩
    · have c2 : cmp .geq ver flex0 = some false := by simp [cmp, h2]
      refine wk_seq ?_
      refine wk_reg (id := 0) ?_
      refine wk_box rfl rfl ?_
      refine wk_box rfl rfl ?_
      refine wk_assign rfl rfl ?_
      refine wk_nil ?_
      refine wk_seq ?_
      refine wk_reg (id := 1) ?_
      refine wk_field (f := 0) (i := Tryz.t31) rfl Tryz.underlying33 rfl (by kernel_rfl) (by decide) rfl ?_
      refine wk_load rfl Tryz.underlying31 rfl (by exact cell_new2 rfl) rfl ?_
      refine wk_move rfl rfl ?_
      refine wk_field (f := 1) (i := Tryz.t3) rfl Tryz.underlying33 rfl (by kernel_rfl) (by decide) rfl ?_
      refine wk_load rfl Tryz.underlying3 rfl (by exact cell_new2 rfl) rfl ?_
      refine wk_cmp rfl rfl (by with_reducible assumption) rfl ?_
      refine wk_move rfl rfl ?_
      refine wk_gT rfl ?_; refine wk_move rfl rfl ?_
      refine wk_gT rfl ?_; refine wk_field (f := 1) (i := Tryz.t3) rfl Tryz.underlying33 rfl (by kernel_rfl) (by decide) rfl ?_
      refine wk_gT rfl ?_; refine wk_load rfl Tryz.underlying3 rfl (by exact cell_new2 rfl) rfl ?_
      refine wk_gT rfl ?_; refine wk_cmp rfl rfl (by with_reducible assumption) rfl ?_
      refine wk_pick rfl rfl rfl rfl ?_
      refine wk_loadA (i := Tryz.t26) rfl Tryz.underlying26 rfl (by kernel_rfl) rfl (by exact cells_new) rfl ?_
      refine wk_call Tryz.call13 (vs := [v, .int .i64 ver, .bool false, .agg #[.int .i64 N, v1, .bool nl, v2, v3]]) rfl rfl ((call false (by simp [h1, h2])).mono ?_)
      rintro e w2 ⟨d2, rfl, ho2, hb2⟩
      refine ⟨d2, rfl, ?_⟩
      refine wk_assign rfl rfl ?_
      refine wk_nil ?_
      exact wk_ret r0 rfl rfl ⟨d2, rfl, ho2, hb2⟩
  · have c1 : cmp .geq flex0 0 = some false := by simp [cmp, h1]
    refine wk_seq ?_
    refine wk_reg (id := 0) ?_
    refine wk_box rfl rfl ?_
    refine wk_box rfl rfl ?_
    refine wk_assign rfl rfl ?_
    refine wk_nil ?_
    refine wk_seq ?_
    refine wk_reg (id := 1) ?_
    refine wk_field (f := 0) (i := Tryz.t31) rfl Tryz.underlying33 rfl (by kernel_rfl) (by decide) rfl ?_
    refine wk_load rfl Tryz.underlying31 rfl (by exact cell_new2 rfl) rfl ?_
    refine wk_move rfl rfl ?_
    refine wk_field (f := 1) (i := Tryz.t3) rfl Tryz.underlying33 rfl (by kernel_rfl) (by decide) rfl ?_
    refine wk_load rfl Tryz.underlying3 rfl (by exact cell_new2 rfl) rfl ?_
    refine wk_cmp rfl rfl (by with_reducible assumption) rfl ?_
    refine wk_move rfl rfl ?_
    refine wk_gF rfl rfl ?_
    refine wk_gF rfl rfl ?_
    refine wk_gF rfl rfl ?_
    refine wk_gF rfl rfl ?_
    refine wk_pick rfl rfl rfl rfl ?_
    refine wk_loadA (i := Tryz.t26) rfl Tryz.underlying26 rfl (by kernel_rfl) rfl (by exact cells_new) rfl ?_
    refine wk_call Tryz.call13 (vs := [v, .int .i64 ver, .bool false, .agg #[.int .i64 N, v1, .bool nl, v2, v3]]) rfl rfl ((call false (by simp [h1])).mono ?_)
    rintro e w2 ⟨d2, rfl, ho2, hb2⟩
    refine ⟨d2, rfl, ?_⟩
    refine wk_assign rfl rfl ?_
    refine wk_nil ?_
    exact wk_ret r0 rfl rfl ⟨d2, rfl, ho2, hb2⟩
end Go.Proofs.YthejiimocbfagabGreatDoor
