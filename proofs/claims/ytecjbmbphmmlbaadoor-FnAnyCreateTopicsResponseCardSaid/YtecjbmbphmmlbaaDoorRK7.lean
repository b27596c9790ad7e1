/-
  The reader's further methods: octets as numbers and truth values, long numbers, floating-point numbers.
-/
import Derived.Test.YtecjbmbphmmlbaaDoorRK3
import Derived.Laws.Externs
set_option linter.unusedVariables false
set_option linter.unusedSimpArgs false
namespace Go.Proofs.Eng
open Go Go.RowKit
attribute [local semireducible] wk wkD
/-- A call of a function that the model answers itself. -/
theorem wk_extern {P : Program} {Q : Exit → Act → World → Prop} {nT : Nat} {σ : Sv} {k : List TD} {w : World} {all : Array Oper} {l : List Oper} {ty : TypeId} {ps : String} {af : Array Edge} {d : Nat} {f : FuncId} {args : List Operand} {ts : Array TypeId} {vs : List Value} {v : Value}
    (hrun : (callFunc f vs.toArray).run P w = .ok (.value v) w) (hv : args.map (evs σ) = vs.map some) (hd : Nat.blt d nT = true) (h : wk P Q nT ((d, v) :: σ) (.ops all l :: k) w) :
    wk P Q nT σ (.ops all (⟨some d, .call ⟨.value (.func f), args.toArray, ts⟩, ty, ps, af, none⟩ :: l) :: k) w := by
  refine wk_val (fun a ha => ?_) hd h
  have hm : args.toArray.map a.eval = vs.toArray := by
    rw [List.map_toArray]
    congr 1
    have key : ∀ (args : List Operand) (vs : List Value), args.map (evs σ) = vs.map some → args.map a.eval = vs := by
      intro args
      induction args with
      | nil => intro vs h; cases vs with
        | nil => rfl
        | cons _ _ => simp at h
      | cons x r ih => intro vs h; cases vs with
        | nil => simp at h
        | cons v vs =>
          simp only [List.map_cons, List.cons.injEq] at h
          rw [List.map_cons, ha.ev h.1, ih vs h.2]
    exact key args vs hv
  have hf : a.eval (.func f) = .func (.func f) #[] #[] := rfl
  unfold execOp
  simp only [resolve, hf, Deferred.ofValue, pure_bind, invoke, Array.append_empty, Array.empty_append]
  rw [hm]
  exact hrun
end Go.Proofs.Eng
namespace Go.Proofs.YtecjbmbphmmlbaaDoor
open Go Go.RowKit Go.Proofs.Eng
set_option maxRecDepth 20000
set_option maxHeartbeats 4000000

theorem rd_Bool : RContract Tryd.prog 68 48 .bool := by
  rintro w X rb s ⟨v, hh, hs⟩ hX _
  obtain ⟨A, c, rfl, hc, hA⟩ := src_form hs
  refine calls_wk (args := [.pointer (some ⟨rb, 0, none⟩)]) Tryd.func48 rfl rfl ?_
  by_cases hl : s.rest.length < 1
  · have c1 : cmp .lss (s.rest.length : Int) 1 = some true := by simp [cmp]; omega
    have e0 : rNat 1 s = (0, .fail) := by unfold rNat; rw [if_pos hl]
    have e : rprim .bool s = ([.bool false], .fail) := by show ([CV.bool ((rNat 1 s).1 != 0)], (rNat 1 s).2) = _; rw [e0]; rfl
    rw [e]
    refine wk_seq ?_
    refine wk_reg (id := 0) ?_
    refine wk_assign rfl rfl ?_
    refine wk_nil ?_
    refine wk_seq ?_
    refine wk_seq ?_
    refine wk_reg (id := 1) ?_
    refine wk_move rfl rfl ?_
    refine wk_nilCheck rfl rfl ?_
    refine wk_field (f := 0) (i := Tryd.t22) rfl Tryd.underlying68 rfl (by kernel_rfl) (by decide) rfl ?_
    refine wk_load rfl Tryd.underlying22 rfl (by exact cell_blk (by with_reducible assumption) rfl) rfl ?_
    refine wk_slen rfl Tryd.underlying22 rfl ?_
    refine wk_cmp rfl rfl (by with_reducible assumption) rfl ?_
    refine wk_nil ?_
    refine wk_condT rfl ?_
    refine wk_seq ?_
    refine wk_reg (id := 2) ?_
    refine wk_move rfl rfl ?_
    refine wk_nilCheck rfl rfl ?_
    refine wk_field (f := 1) (i := Tryd.t4) rfl Tryd.underlying68 rfl (by kernel_rfl) (by decide) rfl ?_
    refine wk_store1 (i := Tryd.t4) rfl rfl hh (by kernel_rfl) rfl rfl rfl (show 1 < 2 by decide) ?_
    have hh1 := setRow_heap _ _ _ (#[.slice A s.rest.length c, .bool s.bad].setIfInBounds 1 (.bool true)) _ _ hh
    refine wk_nil ?_
    refine wk_seq ?_
    refine wk_reg (id := 3) ?_
    refine wk_move rfl rfl ?_
    refine wk_nilCheck rfl rfl ?_
    refine wk_field (f := 0) (i := Tryd.t22) rfl Tryd.underlying68 rfl (by kernel_rfl) (by decide) rfl ?_
    refine wk_store1 (i := Tryd.t22) rfl rfl hh1 (by kernel_rfl) rfl rfl rfl (show 0 < 2 by decide) ?_
    have hh2 := setRow_heap _ _ _ (#[.slice A s.rest.length c, .bool true].setIfInBounds 0 (.slice none 0 0)) _ _ hh1
    refine wk_nil ?_
    refine wk_seq ?_
    refine wk_reg (id := 4) ?_
    refine wk_assign rfl rfl ?_
    refine wk_nil ?_
    exact wk_ret r0 rfl rfl ⟨_, rfl, ⟨_, rfl, .bool _⟩, ⟨.slice none 0 0, hh2, rfl⟩, grown_trans1 (grown_setRow1 _ _ _) (grown_setRow1 _ _ _)⟩
  · have c1 : cmp .lss (s.rest.length : Int) 1 = some false := by simp [cmp]; omega
    obtain ⟨l, hsrc, hrest, hbr⟩ := src_some hs (by omega)
    cases l with
    | nil => rw [hrest] at hl; simp at hl
    | cons x0 r =>
    have e0 : rNat 1 s = (x0.toNat, ⟨some r, s.bad⟩) := by unfold rNat; rw [if_neg hl, hrest]; simp [beNat]
    have e : rprim .bool s = ([.bool (x0.toNat != 0)], ⟨some r, s.bad⟩) := by show ([CV.bool ((rNat 1 s).1 != 0)], (rNat 1 s).2) = _; rw [e0]
    rw [e]
    have hd := BytesRep.drop (m := 1) hbr (by omega)
    obtain ⟨b2, o2, n2, k2, e2, _, hb2, hl2, hc2, hcell⟩ := hbr
    simp only [Value.slice.injEq] at e2
    obtain ⟨rfl, _, rfl⟩ := e2
    have hpos : 0 < s.rest.length := by omega
    have hx0 : w.cell? ⟨b2, o2 + 0, none⟩ = some (.int .u8 (x0.toNat : Int)) := hcell 0 x0 rfl
    have c2 : cmp .neq (x0.toNat : Int) 0 = some (x0.toNat != 0) := by simp only [cmp]; congr 1; rw [Bool.eq_iff_iff]; simp
    refine wk_seq ?_
    refine wk_reg (id := 0) ?_
    refine wk_assign rfl rfl ?_
    refine wk_nil ?_
    refine wk_seq ?_
    refine wk_seq ?_
    refine wk_reg (id := 1) ?_
    refine wk_move rfl rfl ?_
    refine wk_nilCheck rfl rfl ?_
    refine wk_field (f := 0) (i := Tryd.t22) rfl Tryd.underlying68 rfl (by kernel_rfl) (by decide) rfl ?_
    refine wk_load rfl Tryd.underlying22 rfl (by exact cell_blk (by with_reducible assumption) rfl) rfl ?_
    refine wk_slen rfl Tryd.underlying22 rfl ?_
    refine wk_cmp rfl rfl (by with_reducible assumption) rfl ?_
    refine wk_nil ?_
    refine wk_condF rfl ?_
    refine wk_skip ?_
    refine wk_seq ?_
    refine wk_reg (id := 5) ?_
    refine wk_move rfl rfl ?_
    refine wk_nilCheck rfl rfl ?_
    refine wk_field (f := 0) (i := Tryd.t22) rfl Tryd.underlying68 rfl (by kernel_rfl) (by decide) rfl ?_
    refine wk_load rfl Tryd.underlying22 rfl (by exact cell_blk (by with_reducible assumption) rfl) rfl ?_
    refine wk_idxB 0 byteT rfl rfl (by with_reducible assumption) rfl ?_
    refine wk_load rfl Tryd.underlying5 rfl (by with_reducible assumption) rfl ?_
    refine wk_cmp rfl rfl (by with_reducible assumption) rfl ?_
    refine wk_assign rfl rfl ?_
    refine wk_nil ?_
    refine wk_seq ?_
    refine wk_reg (id := 6) ?_
    refine wk_move rfl rfl ?_
    refine wk_move rfl rfl ?_
    refine wk_nilCheck rfl rfl ?_
    refine wk_field (f := 0) (i := Tryd.t22) rfl Tryd.underlying68 rfl (by kernel_rfl) (by decide) rfl ?_
    refine wk_load rfl Tryd.underlying22 rfl (by exact cell_blk (by with_reducible assumption) rfl) rfl ?_
    refine wk_sliceL (m := 1) byteT rfl rfl (by omega) rfl ?_
    refine wk_nilCheck rfl rfl ?_
    refine wk_field (f := 0) (i := Tryd.t22) rfl Tryd.underlying68 rfl (by kernel_rfl) (by decide) rfl ?_
    refine wk_store1 (i := Tryd.t22) rfl rfl hh (by kernel_rfl) rfl rfl rfl (show 0 < 2 by decide) ?_
    have hh5 := setRow_heap _ _ _ (#[.slice (some ⟨b2, o2, none⟩) s.rest.length c, .bool s.bad].setIfInBounds 0 (.slice (if c = 1 then some ⟨b2, o2, none⟩ else (some (⟨b2, o2, none⟩ : Addr)).map (·.add 1)) (s.rest.length - 1) (c - 1))) _ _ hh
    refine wk_nil ?_
    refine wk_seq ?_
    refine wk_reg (id := 7) ?_
    refine wk_move rfl rfl ?_
    refine wk_assign rfl rfl ?_
    refine wk_nil ?_
    have hg := grown_setRow1 w rb (#[.slice (some ⟨b2, o2, none⟩) s.rest.length c, .bool s.bad].setIfInBounds 0 (.slice (if c = 1 then some ⟨b2, o2, none⟩ else (some (⟨b2, o2, none⟩ : Addr)).map (·.add 1)) (s.rest.length - 1) (c - 1)))
    exact wk_ret r0 rfl rfl ⟨_, rfl, ⟨_, rfl, .bool _⟩, ⟨_, hh5, hd.keep (keeps_by hg hX)⟩, hg⟩
theorem rd_Int8 : RContract Tryd.prog 68 49 .i8 := by
  rintro w X rb s ⟨v, hh, hs⟩ hX _
  obtain ⟨A, c, rfl, hc, hA⟩ := src_form hs
  refine calls_wk (args := [.pointer (some ⟨rb, 0, none⟩)]) Tryd.func49 rfl rfl ?_
  by_cases hl : s.rest.length < 1
  · have c1 : cmp .lss (s.rest.length : Int) 1 = some true := by simp [cmp]; omega
    have e0 : rNat 1 s = (0, .fail) := by unfold rNat; rw [if_pos hl]
    have e : rprim .i8 s = ([.int .i8 0], .fail) := by show ([CV.int .i8 (rI .i8 1 s).1], (rI .i8 1 s).2) = _; unfold rI; rw [e0]; rfl
    rw [e]
    refine wk_seq ?_
    refine wk_reg (id := 0) ?_
    refine wk_assign rfl rfl ?_
    refine wk_nil ?_
    refine wk_seq ?_
    refine wk_seq ?_
    refine wk_reg (id := 1) ?_
    refine wk_move rfl rfl ?_
    refine wk_nilCheck rfl rfl ?_
    refine wk_field (f := 0) (i := Tryd.t22) rfl Tryd.underlying68 rfl (by kernel_rfl) (by decide) rfl ?_
    refine wk_load rfl Tryd.underlying22 rfl (by exact cell_blk (by with_reducible assumption) rfl) rfl ?_
    refine wk_slen rfl Tryd.underlying22 rfl ?_
    refine wk_cmp rfl rfl (by with_reducible assumption) rfl ?_
    refine wk_nil ?_
    refine wk_condT rfl ?_
    refine wk_seq ?_
    refine wk_reg (id := 2) ?_
    refine wk_move rfl rfl ?_
    refine wk_nilCheck rfl rfl ?_
    refine wk_field (f := 1) (i := Tryd.t4) rfl Tryd.underlying68 rfl (by kernel_rfl) (by decide) rfl ?_
    refine wk_store1 (i := Tryd.t4) rfl rfl hh (by kernel_rfl) rfl rfl rfl (show 1 < 2 by decide) ?_
    have hh1 := setRow_heap _ _ _ (#[.slice A s.rest.length c, .bool s.bad].setIfInBounds 1 (.bool true)) _ _ hh
    refine wk_nil ?_
    refine wk_seq ?_
    refine wk_reg (id := 3) ?_
    refine wk_move rfl rfl ?_
    refine wk_nilCheck rfl rfl ?_
    refine wk_field (f := 0) (i := Tryd.t22) rfl Tryd.underlying68 rfl (by kernel_rfl) (by decide) rfl ?_
    refine wk_store1 (i := Tryd.t22) rfl rfl hh1 (by kernel_rfl) rfl rfl rfl (show 0 < 2 by decide) ?_
    have hh2 := setRow_heap _ _ _ (#[.slice A s.rest.length c, .bool true].setIfInBounds 0 (.slice none 0 0)) _ _ hh1
    refine wk_nil ?_
    refine wk_seq ?_
    refine wk_reg (id := 4) ?_
    refine wk_assign rfl rfl ?_
    refine wk_nil ?_
    exact wk_ret r0 rfl rfl ⟨_, rfl, ⟨_, rfl, .int _ _⟩, ⟨.slice none 0 0, hh2, rfl⟩, grown_trans1 (grown_setRow1 _ _ _) (grown_setRow1 _ _ _)⟩
  · have c1 : cmp .lss (s.rest.length : Int) 1 = some false := by simp [cmp]; omega
    obtain ⟨l, hsrc, hrest, hbr⟩ := src_some hs (by omega)
    cases l with
    | nil => rw [hrest] at hl; simp at hl
    | cons x0 r =>
    have e0 : rNat 1 s = (x0.toNat, ⟨some r, s.bad⟩) := by unfold rNat; rw [if_neg hl, hrest]; simp [beNat]
    have e : rprim .i8 s = ([.int .i8 (IntKind.i8.wrap (x0.toNat : Int))], ⟨some r, s.bad⟩) := by show ([CV.int .i8 (rI .i8 1 s).1], (rI .i8 1 s).2) = _; unfold rI; rw [e0]
    rw [e]
    have hd := BytesRep.drop (m := 1) hbr (by omega)
    obtain ⟨b2, o2, n2, k2, e2, _, hb2, hl2, hc2, hcell⟩ := hbr
    simp only [Value.slice.injEq] at e2
    obtain ⟨rfl, _, rfl⟩ := e2
    have hpos : 0 < s.rest.length := by omega
    have hx0 : w.cell? ⟨b2, o2 + 0, none⟩ = some (.int .u8 (x0.toNat : Int)) := hcell 0 x0 rfl
    skip
    refine wk_seq ?_
    refine wk_reg (id := 0) ?_
    refine wk_assign rfl rfl ?_
    refine wk_nil ?_
    refine wk_seq ?_
    refine wk_seq ?_
    refine wk_reg (id := 1) ?_
    refine wk_move rfl rfl ?_
    refine wk_nilCheck rfl rfl ?_
    refine wk_field (f := 0) (i := Tryd.t22) rfl Tryd.underlying68 rfl (by kernel_rfl) (by decide) rfl ?_
    refine wk_load rfl Tryd.underlying22 rfl (by exact cell_blk (by with_reducible assumption) rfl) rfl ?_
    refine wk_slen rfl Tryd.underlying22 rfl ?_
    refine wk_cmp rfl rfl (by with_reducible assumption) rfl ?_
    refine wk_nil ?_
    refine wk_condF rfl ?_
    refine wk_skip ?_
    refine wk_seq ?_
    refine wk_reg (id := 5) ?_
    refine wk_move rfl rfl ?_
    refine wk_nilCheck rfl rfl ?_
    refine wk_field (f := 0) (i := Tryd.t22) rfl Tryd.underlying68 rfl (by kernel_rfl) (by decide) rfl ?_
    refine wk_load rfl Tryd.underlying22 rfl (by exact cell_blk (by with_reducible assumption) rfl) rfl ?_
    refine wk_idxB 0 byteT rfl rfl (by with_reducible assumption) rfl ?_
    refine wk_load rfl Tryd.underlying5 rfl (by with_reducible assumption) rfl ?_
    refine wk_assign rfl rfl ?_
    refine wk_nil ?_
    refine wk_seq ?_
    refine wk_reg (id := 6) ?_
    refine wk_move rfl rfl ?_
    refine wk_move rfl rfl ?_
    refine wk_nilCheck rfl rfl ?_
    refine wk_field (f := 0) (i := Tryd.t22) rfl Tryd.underlying68 rfl (by kernel_rfl) (by decide) rfl ?_
    refine wk_load rfl Tryd.underlying22 rfl (by exact cell_blk (by with_reducible assumption) rfl) rfl ?_
    refine wk_sliceL (m := 1) byteT rfl rfl (by omega) rfl ?_
    refine wk_nilCheck rfl rfl ?_
    refine wk_field (f := 0) (i := Tryd.t22) rfl Tryd.underlying68 rfl (by kernel_rfl) (by decide) rfl ?_
    refine wk_store1 (i := Tryd.t22) rfl rfl hh (by kernel_rfl) rfl rfl rfl (show 0 < 2 by decide) ?_
    have hh5 := setRow_heap _ _ _ (#[.slice (some ⟨b2, o2, none⟩) s.rest.length c, .bool s.bad].setIfInBounds 0 (.slice (if c = 1 then some ⟨b2, o2, none⟩ else (some (⟨b2, o2, none⟩ : Addr)).map (·.add 1)) (s.rest.length - 1) (c - 1))) _ _ hh
    refine wk_nil ?_
    refine wk_seq ?_
    refine wk_reg (id := 7) ?_
    refine wk_move rfl rfl ?_
    refine wk_conv rfl Tryd.underlying5 Tryd.underlying59 rfl ?_
    refine wk_assign rfl rfl ?_
    refine wk_nil ?_
    have hg := grown_setRow1 w rb (#[.slice (some ⟨b2, o2, none⟩) s.rest.length c, .bool s.bad].setIfInBounds 0 (.slice (if c = 1 then some ⟨b2, o2, none⟩ else (some (⟨b2, o2, none⟩ : Addr)).map (·.add 1)) (s.rest.length - 1) (c - 1)))
    exact wk_ret r0 rfl rfl ⟨_, rfl, ⟨_, rfl, .int _ _⟩, ⟨_, hh5, hd.keep (keeps_by hg hX)⟩, hg⟩
end Go.Proofs.YtecjbmbphmmlbaaDoor
