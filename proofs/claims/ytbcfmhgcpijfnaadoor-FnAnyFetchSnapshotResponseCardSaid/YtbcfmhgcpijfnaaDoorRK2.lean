/-
  The reader's methods, walked: numbers, lengths, the end.
-/
import Derived.Test.YtbcfmhgcpijfnaaDoorRKuv
import Derived.Test.YtbcfmhgcpijfnaaDoorRKbin
import Derived.Test.YtbcfmhgcpijfnaaDoorPX
set_option linter.unusedVariables false
set_option linter.unusedSimpArgs false
namespace Go.Proofs.YtbcfmhgcpijfnaaDoor
open Go Go.RowKit Go.Proofs.Eng
set_option maxRecDepth 20000
set_option maxHeartbeats 4000000

theorem grown_below1 {w w' : World} {b : Nat} (h : Below w.heap.size w w') : w.grownBy w' (some b) := ⟨h.os, h.tape, h.output, h.size, fun k hk _ => h.block k hk⟩
theorem src_some {w : World} {X : Nat → Prop} {v : Value} {s : RS} (h : SrcRep w X v s.src) (hl : 0 < s.rest.length) : ∃ l, s.src = some l ∧ s.rest = l ∧ BytesRep w X v l := by
  cases hs : s.src with
  | none => simp [RS.rest, hs] at hl
  | some l => rw [hs] at h; exact ⟨l, rfl, by simp [RS.rest, hs], h⟩
theorem src_bytes0 {w : World} {X : Nat → Prop} {v : Value} {s : RS} (h : SrcRep w X v s.src) : BytesRep0 w X v s.rest := by
  unfold RS.rest
  cases hs : s.src with
  | none => rw [hs] at h; exact .inl ⟨⟨_, h⟩, rfl⟩
  | some l => rw [hs] at h; exact .inr h
theorem rd_Ok : ROkContract Tryd.prog 75 35 := by
  rintro w X rb s ⟨v, hh, hs⟩
  refine calls_wk (args := [.pointer (some ⟨rb, 0, none⟩)]) Tryd.func35 rfl rfl ?_
  refine wk_seq ?_
  refine wk_reg (id := 0) ?_
  refine wk_assign rfl rfl ?_
  refine wk_nil ?_
  refine wk_seq ?_
  refine wk_reg (id := 1) ?_
  refine wk_move rfl rfl ?_
  refine wk_nilCheck rfl rfl ?_
  refine wk_field (f := 1) (i := Tryd.t4) rfl Tryd.underlying75 rfl (by kernel_rfl) (by decide) rfl ?_
  refine wk_load rfl Tryd.underlying4 rfl (by exact cell_blk (by with_reducible assumption) rfl) rfl ?_
  refine wk_not rfl rfl ?_
  refine wk_assign rfl rfl ?_
  refine wk_nil ?_
  exact wk_ret r0 rfl rfl ⟨rfl, rfl⟩
theorem rd_Complete (g : Nat) (E : Value) (hg : (.global g : Operand) = .global 1) : RCplContract Tryd.prog 75 g E 36 := by
  obtain rfl : g = 1 := by injection hg
  rintro w X rb s ⟨v, hh, hs⟩ hE
  refine calls_wk (args := [.pointer (some ⟨rb, 0, none⟩)]) Tryd.func36 rfl rfl ?_
  refine wk_seq ?_
  refine wk_reg (id := 0) ?_
  refine wk_assign rfl rfl ?_
  refine wk_nil ?_
  refine wk_seq ?_
  refine wk_seq ?_
  refine wk_reg (id := 1) ?_
  refine wk_move rfl rfl ?_
  refine wk_nilCheck rfl rfl ?_
  refine wk_field (f := 1) (i := Tryd.t4) rfl Tryd.underlying75 rfl (by kernel_rfl) (by decide) rfl ?_
  refine wk_load rfl Tryd.underlying4 rfl (by exact cell_blk (by with_reducible assumption) rfl) rfl ?_
  refine wk_nil ?_
  refine wk_cond (b := s.bad) rfl (fun hb => ?_) (fun hb => ?_)
  · refine wk_seq ?_
    refine wk_reg (id := 2) ?_
    refine wk_load rfl Tryd.underlying35 rfl (by with_reducible assumption) rfl ?_
    refine wk_assign rfl rfl ?_
    refine wk_nil ?_
    exact wk_ret r0 rfl rfl ⟨by rw [hb]; rfl, rfl⟩
  · refine wk_skip ?_
    refine wk_seq ?_
    refine wk_reg (id := 3) ?_
    refine wk_assign rfl rfl ?_
    refine wk_nil ?_
    exact wk_ret r0 rfl rfl ⟨by rw [hb]; rfl, rfl⟩

theorem i64wr (n : Int) (h1 : -9223372036854775808 ≤ n) (h2 : n ≤ 9223372036854775807) : IntKind.i64.wrap n = n := by
  simp [IntKind.wrap, IntKind.bits, IntKind.signed]
  omega
theorem rd_Int16 : RContract Tryd.prog 75 32 .i16 := by
  rintro w X rb s ⟨v, hh, hs⟩ hX _
  obtain ⟨A, c, rfl, hc, hA⟩ := src_form hs
  refine calls_wk (args := [.pointer (some ⟨rb, 0, none⟩)]) Tryd.func32 rfl rfl ?_
  by_cases hl : s.rest.length < 2
  · have c1 : cmp .lss (s.rest.length : Int) 2 = some true := by simp [cmp]; omega
    have e0 : rNat 2 s = (0, .fail) := by unfold rNat; rw [if_pos hl]
    have e : rprim .i16 s = ([.int .i16 0], .fail) := by show ([CV.int .i16 (rI .i16 2 s).1], (rI .i16 2 s).2) = _; unfold rI; rw [e0]; rfl
    rw [e]
    refine wk_seq ?_
    refine wk_reg (id := 0) ?_
    refine wk_assign rfl rfl ?_
    refine wk_nil ?_
    refine wk_seq ?_
    refine wk_seq ?_
    refine wk_reg (id := 1) ?_
    refine wk_move rfl rfl ?_
    refine wk_nilCheck rfl rfl ?_
    refine wk_field (f := 0) (i := Tryd.t22) rfl Tryd.underlying75 rfl (by kernel_rfl) (by decide) rfl ?_
    refine wk_load rfl Tryd.underlying22 rfl (by exact cell_blk (by with_reducible assumption) rfl) rfl ?_
    refine wk_slen rfl Tryd.underlying22 rfl ?_
    refine wk_cmp rfl rfl (by with_reducible assumption) rfl ?_
    refine wk_nil ?_
    refine wk_condT rfl ?_
    refine wk_seq ?_
    refine wk_reg (id := 2) ?_
    refine wk_move rfl rfl ?_
    refine wk_nilCheck rfl rfl ?_
    refine wk_field (f := 1) (i := Tryd.t4) rfl Tryd.underlying75 rfl (by kernel_rfl) (by decide) rfl ?_
    refine wk_store1 (i := Tryd.t4) rfl rfl hh (by kernel_rfl) rfl rfl rfl (show 1 < 2 by decide) ?_
    have hh1 := setRow_heap _ _ _ (#[.slice A s.rest.length c, .bool s.bad].setIfInBounds 1 (.bool true)) _ _ hh
    refine wk_nil ?_
    refine wk_seq ?_
    refine wk_reg (id := 3) ?_
    refine wk_move rfl rfl ?_
    refine wk_nilCheck rfl rfl ?_
    refine wk_field (f := 0) (i := Tryd.t22) rfl Tryd.underlying75 rfl (by kernel_rfl) (by decide) rfl ?_
    refine wk_store1 (i := Tryd.t22) rfl rfl hh1 (by kernel_rfl) rfl rfl rfl (show 0 < 2 by decide) ?_
    have hh2 := setRow_heap _ _ _ (#[.slice A s.rest.length c, .bool true].setIfInBounds 0 (.slice none 0 0)) _ _ hh1
    refine wk_nil ?_
    refine wk_seq ?_
    refine wk_reg (id := 4) ?_
    refine wk_assign rfl rfl ?_
    refine wk_nil ?_
    exact wk_ret r0 rfl rfl ⟨_, rfl, ⟨_, rfl, .int _ _⟩, ⟨.slice none 0 0, hh2, rfl⟩, grown_trans1 (grown_setRow1 _ _ _) (grown_setRow1 _ _ _)⟩
  · have c1 : cmp .lss (s.rest.length : Int) 2 = some false := by simp [cmp]; omega
    obtain ⟨l, hsrc, hrest, hbr⟩ := src_some hs (by omega)
    have e0 : rNat 2 s = (beNat (l.take 2), ⟨some (l.drop 2), s.bad⟩) := by unfold rNat; rw [if_neg hl, hrest]
    have e : rprim .i16 s = ([.int .i16 (IntKind.i16.wrap (beNat (l.take 2) : Nat))], ⟨some (l.drop 2), s.bad⟩) := by show ([CV.int .i16 (rI .i16 2 s).1], (rI .i16 2 s).2) = _; unfold rI; rw [e0]
    rw [e]
    refine wk_seq ?_
    refine wk_reg (id := 0) ?_
    refine wk_assign rfl rfl ?_
    refine wk_nil ?_
    refine wk_seq ?_
    refine wk_seq ?_
    refine wk_reg (id := 1) ?_
    refine wk_move rfl rfl ?_
    refine wk_nilCheck rfl rfl ?_
    refine wk_field (f := 0) (i := Tryd.t22) rfl Tryd.underlying75 rfl (by kernel_rfl) (by decide) rfl ?_
    refine wk_load rfl Tryd.underlying22 rfl (by exact cell_blk (by with_reducible assumption) rfl) rfl ?_
    refine wk_slen rfl Tryd.underlying22 rfl ?_
    refine wk_cmp rfl rfl (by with_reducible assumption) rfl ?_
    refine wk_nil ?_
    refine wk_condF rfl ?_
    refine wk_skip ?_
    refine wk_seq ?_
    refine wk_draw (fun w' => Below w.heap.size w w') [(0, true), (1, true), (2, false), (3, true), (4, true), (5, false), (6, true), (7, true)] mixedR pq0 (by kernel_rfl) (by kernel_rfl) (by kernel_rfl) (fun w5 _ h5 => h5) ?_
    intro w3 h3 hb3
    refine wd_loadA (ti := Tryd.t97) rfl rfl Tryd.underlying97 rfl (by kernel_rfl) (vs := []) rfl (fun w' hS j v h => by simp at h) rfl ?_
    refine wd_move rfl rfl rfl ?_
    refine wd_nilCheck1 (by with_reducible assumption) rfl rfl rfl ?_
    refine wd_field (f := 0) (ti := Tryd.t22) rfl rfl Tryd.underlying75 rfl (by kernel_rfl) (by decide) rfl ?_
    refine wd_load rfl rfl Tryd.underlying22 rfl (fun w_ hS_ => cell_blk ((Below.block hS_ _ (lt_of_some (by with_reducible assumption))).trans (by with_reducible assumption)) rfl) rfl ?_
    refine wd_call rfl Tryd.call60 (vs := [.agg #[], .slice A s.rest.length c]) rfl rfl ((c_BE16 w3 X (.slice A s.rest.length c) l (hbr.keep ⟨hb3.size, fun b hb _ => hb3.block b hb⟩) (by rw [← hrest]; omega)).mono ?_)
    rintro e w4 ⟨rfl, hb4⟩
    have hb34 := hb3.trans (hb4.mono hb3.size)
    refine ⟨_, rfl, hb34, ?_⟩
    refine wd_conv rfl rfl Tryd.underlying70 Tryd.underlying29 rfl ?_
    refine wd_assign rfl rfl rfl ?_
    refine wd_done ?_
    have hh4 := (hb34.block rb (lt_of_some hh)).trans hh
    refine wk_seq ?_
    refine wk_reg (id := 6) ?_
    refine wk_move rfl rfl ?_
    refine wk_move rfl rfl ?_
    refine wk_nilCheck rfl rfl ?_
    refine wk_field (f := 0) (i := Tryd.t22) rfl Tryd.underlying75 rfl (by kernel_rfl) (by decide) rfl ?_
    refine wk_load rfl Tryd.underlying22 rfl (by exact cell_blk (by with_reducible assumption) rfl) rfl ?_
    refine wk_sliceL (m := 2) byteT rfl rfl (by omega) rfl ?_
    refine wk_nilCheck rfl rfl ?_
    refine wk_field (f := 0) (i := Tryd.t22) rfl Tryd.underlying75 rfl (by kernel_rfl) (by decide) rfl ?_
    refine wk_store1 (i := Tryd.t22) rfl rfl hh4 (by kernel_rfl) rfl rfl rfl (show 0 < 2 by decide) ?_
    have hh5 := setRow_heap _ _ _ (#[.slice A s.rest.length c, .bool s.bad].setIfInBounds 0 (.slice (if c = 2 then A else A.map (·.add 2)) (s.rest.length - 2) (c - 2))) _ _ hh4
    refine wk_nil ?_
    refine wk_seq ?_
    refine wk_reg (id := 7) ?_
    refine wk_move rfl rfl ?_
    refine wk_assign rfl rfl ?_
    refine wk_nil ?_
    have hg := grown_trans1 (grown_below1 (b := rb) hb34) (grown_setRow1 w4 rb (#[.slice A s.rest.length c, .bool s.bad].setIfInBounds 0 (.slice (if c = 2 then A else A.map (·.add 2)) (s.rest.length - 2) (c - 2))))
    have hd := BytesRep.drop (m := 2) hbr (by omega)
    exact wk_ret r0 rfl rfl ⟨_, rfl, ⟨_, rfl, .int _ _⟩, ⟨_, hh5, hd.keep (keeps_by hg hX)⟩, hg⟩
theorem u16_beNat : ∀ l : List UInt8, l.length ≤ 2 → IntKind.u16.wrap ((beNat l : Nat) : Int) = ((beNat l : Nat) : Int) := by
  intro l hl
  have h : beNat l < 65536 := by
    match l, hl with
    | [], _ => decide
    | [a], _ => rw [be1n]; have := a.toNat_lt; omega
    | [a, b], _ => rw [be2n]; have := a.toNat_lt; have := b.toNat_lt; omega
  simp [IntKind.wrap, IntKind.bits, IntKind.signed]
  omega
theorem rd_Uint16 : RContract Tryd.prog 75 52 .u16 := by
  rintro w X rb s ⟨v, hh, hs⟩ hX _
  obtain ⟨A, c, rfl, hc, hA⟩ := src_form hs
  refine calls_wk (args := [.pointer (some ⟨rb, 0, none⟩)]) Tryd.func52 rfl rfl ?_
  by_cases hl : s.rest.length < 2
  · have c1 : cmp .lss (s.rest.length : Int) 2 = some true := by simp [cmp]; omega
    have e0 : rNat 2 s = (0, .fail) := by unfold rNat; rw [if_pos hl]
    have e : rprim .u16 s = ([.int .u16 0], .fail) := by show ([CV.int .u16 (rI .u16 2 s).1], (rI .u16 2 s).2) = _; unfold rI; rw [e0]; rfl
    rw [e]
    refine wk_seq ?_
    refine wk_reg (id := 0) ?_
    refine wk_assign rfl rfl ?_
    refine wk_nil ?_
    refine wk_seq ?_
    refine wk_seq ?_
    refine wk_reg (id := 1) ?_
    refine wk_move rfl rfl ?_
    refine wk_nilCheck rfl rfl ?_
    refine wk_field (f := 0) (i := Tryd.t22) rfl Tryd.underlying75 rfl (by kernel_rfl) (by decide) rfl ?_
    refine wk_load rfl Tryd.underlying22 rfl (by exact cell_blk (by with_reducible assumption) rfl) rfl ?_
    refine wk_slen rfl Tryd.underlying22 rfl ?_
    refine wk_cmp rfl rfl (by with_reducible assumption) rfl ?_
    refine wk_nil ?_
    refine wk_condT rfl ?_
    refine wk_seq ?_
    refine wk_reg (id := 2) ?_
    refine wk_move rfl rfl ?_
    refine wk_nilCheck rfl rfl ?_
    refine wk_field (f := 1) (i := Tryd.t4) rfl Tryd.underlying75 rfl (by kernel_rfl) (by decide) rfl ?_
    refine wk_store1 (i := Tryd.t4) rfl rfl hh (by kernel_rfl) rfl rfl rfl (show 1 < 2 by decide) ?_
    have hh1 := setRow_heap _ _ _ (#[.slice A s.rest.length c, .bool s.bad].setIfInBounds 1 (.bool true)) _ _ hh
    refine wk_nil ?_
    refine wk_seq ?_
    refine wk_reg (id := 3) ?_
    refine wk_move rfl rfl ?_
    refine wk_nilCheck rfl rfl ?_
    refine wk_field (f := 0) (i := Tryd.t22) rfl Tryd.underlying75 rfl (by kernel_rfl) (by decide) rfl ?_
    refine wk_store1 (i := Tryd.t22) rfl rfl hh1 (by kernel_rfl) rfl rfl rfl (show 0 < 2 by decide) ?_
    have hh2 := setRow_heap _ _ _ (#[.slice A s.rest.length c, .bool true].setIfInBounds 0 (.slice none 0 0)) _ _ hh1
    refine wk_nil ?_
    refine wk_seq ?_
    refine wk_reg (id := 4) ?_
    refine wk_assign rfl rfl ?_
    refine wk_nil ?_
    exact wk_ret r0 rfl rfl ⟨_, rfl, ⟨_, rfl, .int _ _⟩, ⟨.slice none 0 0, hh2, rfl⟩, grown_trans1 (grown_setRow1 _ _ _) (grown_setRow1 _ _ _)⟩
  · have c1 : cmp .lss (s.rest.length : Int) 2 = some false := by simp [cmp]; omega
    obtain ⟨l, hsrc, hrest, hbr⟩ := src_some hs (by omega)
    have e0 : rNat 2 s = (beNat (l.take 2), ⟨some (l.drop 2), s.bad⟩) := by unfold rNat; rw [if_neg hl, hrest]
    have e : rprim .u16 s = ([.int .u16 (IntKind.u16.wrap (beNat (l.take 2) : Nat))], ⟨some (l.drop 2), s.bad⟩) := by show ([CV.int .u16 (rI .u16 2 s).1], (rI .u16 2 s).2) = _; unfold rI; rw [e0]
    rw [e]
    refine wk_seq ?_
    refine wk_reg (id := 0) ?_
    refine wk_assign rfl rfl ?_
    refine wk_nil ?_
    refine wk_seq ?_
    refine wk_seq ?_
    refine wk_reg (id := 1) ?_
    refine wk_move rfl rfl ?_
    refine wk_nilCheck rfl rfl ?_
    refine wk_field (f := 0) (i := Tryd.t22) rfl Tryd.underlying75 rfl (by kernel_rfl) (by decide) rfl ?_
    refine wk_load rfl Tryd.underlying22 rfl (by exact cell_blk (by with_reducible assumption) rfl) rfl ?_
    refine wk_slen rfl Tryd.underlying22 rfl ?_
    refine wk_cmp rfl rfl (by with_reducible assumption) rfl ?_
    refine wk_nil ?_
    refine wk_condF rfl ?_
    refine wk_skip ?_
    refine wk_seq ?_
    refine wk_draw (fun w' => Below w.heap.size w w') [(0, true), (1, true), (2, false), (3, true), (4, true), (5, false), (6, true)] mixedR pq0 (by kernel_rfl) (by kernel_rfl) (by kernel_rfl) (fun w5 _ h5 => h5) ?_
    intro w3 h3 hb3
    refine wd_loadA (ti := Tryd.t97) rfl rfl Tryd.underlying97 rfl (by kernel_rfl) (vs := []) rfl (fun w' hS j v h => by simp at h) rfl ?_
    refine wd_move rfl rfl rfl ?_
    refine wd_nilCheck1 (by with_reducible assumption) rfl rfl rfl ?_
    refine wd_field (f := 0) (ti := Tryd.t22) rfl rfl Tryd.underlying75 rfl (by kernel_rfl) (by decide) rfl ?_
    refine wd_load rfl rfl Tryd.underlying22 rfl (fun w_ hS_ => cell_blk ((Below.block hS_ _ (lt_of_some (by with_reducible assumption))).trans (by with_reducible assumption)) rfl) rfl ?_
    refine wd_call rfl Tryd.call60 (vs := [.agg #[], .slice A s.rest.length c]) rfl rfl ((c_BE16 w3 X (.slice A s.rest.length c) l (hbr.keep ⟨hb3.size, fun b hb _ => hb3.block b hb⟩) (by rw [← hrest]; omega)).mono ?_)
    rintro e w4 ⟨rfl, hb4⟩
    have hb34 := hb3.trans (hb4.mono hb3.size)
    refine ⟨_, rfl, hb34, ?_⟩
    refine wd_assign rfl rfl rfl ?_
    refine wd_done ?_
    have hh4 := (hb34.block rb (lt_of_some hh)).trans hh
    refine wk_seq ?_
    refine wk_reg (id := 6) ?_
    refine wk_move rfl rfl ?_
    refine wk_move rfl rfl ?_
    refine wk_nilCheck rfl rfl ?_
    refine wk_field (f := 0) (i := Tryd.t22) rfl Tryd.underlying75 rfl (by kernel_rfl) (by decide) rfl ?_
    refine wk_load rfl Tryd.underlying22 rfl (by exact cell_blk (by with_reducible assumption) rfl) rfl ?_
    refine wk_sliceL (m := 2) byteT rfl rfl (by omega) rfl ?_
    refine wk_nilCheck rfl rfl ?_
    refine wk_field (f := 0) (i := Tryd.t22) rfl Tryd.underlying75 rfl (by kernel_rfl) (by decide) rfl ?_
    refine wk_store1 (i := Tryd.t22) rfl rfl hh4 (by kernel_rfl) rfl rfl rfl (show 0 < 2 by decide) ?_
    have hh5 := setRow_heap _ _ _ (#[.slice A s.rest.length c, .bool s.bad].setIfInBounds 0 (.slice (if c = 2 then A else A.map (·.add 2)) (s.rest.length - 2) (c - 2))) _ _ hh4
    refine wk_nil ?_
    refine wk_seq ?_
    refine wk_reg (id := 7) ?_
    refine wk_move rfl rfl ?_
    refine wk_assign rfl rfl ?_
    refine wk_nil ?_
    have hg := grown_trans1 (grown_below1 (b := rb) hb34) (grown_setRow1 w4 rb (#[.slice A s.rest.length c, .bool s.bad].setIfInBounds 0 (.slice (if c = 2 then A else A.map (·.add 2)) (s.rest.length - 2) (c - 2))))
    have hd := BytesRep.drop (m := 2) hbr (by omega)
    exact wk_ret r0 rfl rfl ⟨_, rfl, ⟨_, rfl, by rw [u16_beNat (l.take 2) (by rw [List.length_take]; omega)]; exact .int _ _⟩, ⟨_, hh5, hd.keep (keeps_by hg hX)⟩, hg⟩
theorem rd_Int32 : RContract Tryd.prog 75 31 .i32 := by
  rintro w X rb s ⟨v, hh, hs⟩ hX _
  obtain ⟨A, c, rfl, hc, hA⟩ := src_form hs
  refine calls_wk (args := [.pointer (some ⟨rb, 0, none⟩)]) Tryd.func31 rfl rfl ?_
  by_cases hl : s.rest.length < 4
  · have c1 : cmp .lss (s.rest.length : Int) 4 = some true := by simp [cmp]; omega
    have e0 : rNat 4 s = (0, .fail) := by unfold rNat; rw [if_pos hl]
    have e : rprim .i32 s = ([.int .i32 0], .fail) := by show ([CV.int .i32 (rI .i32 4 s).1], (rI .i32 4 s).2) = _; unfold rI; rw [e0]; rfl
    rw [e]
    refine wk_seq ?_
    refine wk_reg (id := 0) ?_
    refine wk_assign rfl rfl ?_
    refine wk_nil ?_
    refine wk_seq ?_
    refine wk_seq ?_
    refine wk_reg (id := 1) ?_
    refine wk_move rfl rfl ?_
    refine wk_nilCheck rfl rfl ?_
    refine wk_field (f := 0) (i := Tryd.t22) rfl Tryd.underlying75 rfl (by kernel_rfl) (by decide) rfl ?_
    refine wk_load rfl Tryd.underlying22 rfl (by exact cell_blk (by with_reducible assumption) rfl) rfl ?_
    refine wk_slen rfl Tryd.underlying22 rfl ?_
    refine wk_cmp rfl rfl (by with_reducible assumption) rfl ?_
    refine wk_nil ?_
    refine wk_condT rfl ?_
    refine wk_seq ?_
    refine wk_reg (id := 2) ?_
    refine wk_move rfl rfl ?_
    refine wk_nilCheck rfl rfl ?_
    refine wk_field (f := 1) (i := Tryd.t4) rfl Tryd.underlying75 rfl (by kernel_rfl) (by decide) rfl ?_
    refine wk_store1 (i := Tryd.t4) rfl rfl hh (by kernel_rfl) rfl rfl rfl (show 1 < 2 by decide) ?_
    have hh1 := setRow_heap _ _ _ (#[.slice A s.rest.length c, .bool s.bad].setIfInBounds 1 (.bool true)) _ _ hh
    refine wk_nil ?_
    refine wk_seq ?_
    refine wk_reg (id := 3) ?_
    refine wk_move rfl rfl ?_
    refine wk_nilCheck rfl rfl ?_
    refine wk_field (f := 0) (i := Tryd.t22) rfl Tryd.underlying75 rfl (by kernel_rfl) (by decide) rfl ?_
    refine wk_store1 (i := Tryd.t22) rfl rfl hh1 (by kernel_rfl) rfl rfl rfl (show 0 < 2 by decide) ?_
    have hh2 := setRow_heap _ _ _ (#[.slice A s.rest.length c, .bool true].setIfInBounds 0 (.slice none 0 0)) _ _ hh1
    refine wk_nil ?_
    refine wk_seq ?_
    refine wk_reg (id := 4) ?_
    refine wk_assign rfl rfl ?_
    refine wk_nil ?_
    exact wk_ret r0 rfl rfl ⟨_, rfl, ⟨_, rfl, .int _ _⟩, ⟨.slice none 0 0, hh2, rfl⟩, grown_trans1 (grown_setRow1 _ _ _) (grown_setRow1 _ _ _)⟩
  · have c1 : cmp .lss (s.rest.length : Int) 4 = some false := by simp [cmp]; omega
    obtain ⟨l, hsrc, hrest, hbr⟩ := src_some hs (by omega)
    have e0 : rNat 4 s = (beNat (l.take 4), ⟨some (l.drop 4), s.bad⟩) := by unfold rNat; rw [if_neg hl, hrest]
    have e : rprim .i32 s = ([.int .i32 (IntKind.i32.wrap (beNat (l.take 4) : Nat))], ⟨some (l.drop 4), s.bad⟩) := by show ([CV.int .i32 (rI .i32 4 s).1], (rI .i32 4 s).2) = _; unfold rI; rw [e0]
    rw [e]
    refine wk_seq ?_
    refine wk_reg (id := 0) ?_
    refine wk_assign rfl rfl ?_
    refine wk_nil ?_
    refine wk_seq ?_
    refine wk_seq ?_
    refine wk_reg (id := 1) ?_
    refine wk_move rfl rfl ?_
    refine wk_nilCheck rfl rfl ?_
    refine wk_field (f := 0) (i := Tryd.t22) rfl Tryd.underlying75 rfl (by kernel_rfl) (by decide) rfl ?_
    refine wk_load rfl Tryd.underlying22 rfl (by exact cell_blk (by with_reducible assumption) rfl) rfl ?_
    refine wk_slen rfl Tryd.underlying22 rfl ?_
    refine wk_cmp rfl rfl (by with_reducible assumption) rfl ?_
    refine wk_nil ?_
    refine wk_condF rfl ?_
    refine wk_skip ?_
    refine wk_seq ?_
    refine wk_draw (fun w' => Below w.heap.size w w') [(0, true), (1, true), (2, false), (3, true), (4, true), (5, false), (6, true), (7, true)] mixedR pq0 (by kernel_rfl) (by kernel_rfl) (by kernel_rfl) (fun w5 _ h5 => h5) ?_
    intro w3 h3 hb3
    refine wd_loadA (ti := Tryd.t97) rfl rfl Tryd.underlying97 rfl (by kernel_rfl) (vs := []) rfl (fun w' hS j v h => by simp at h) rfl ?_
    refine wd_move rfl rfl rfl ?_
    refine wd_nilCheck1 (by with_reducible assumption) rfl rfl rfl ?_
    refine wd_field (f := 0) (ti := Tryd.t22) rfl rfl Tryd.underlying75 rfl (by kernel_rfl) (by decide) rfl ?_
    refine wd_load rfl rfl Tryd.underlying22 rfl (fun w_ hS_ => cell_blk ((Below.block hS_ _ (lt_of_some (by with_reducible assumption))).trans (by with_reducible assumption)) rfl) rfl ?_
    refine wd_call rfl Tryd.call59 (vs := [.agg #[], .slice A s.rest.length c]) rfl rfl ((c_BE32 w3 X (.slice A s.rest.length c) l (hbr.keep ⟨hb3.size, fun b hb _ => hb3.block b hb⟩) (by rw [← hrest]; omega)).mono ?_)
    rintro e w4 ⟨rfl, hb4⟩
    have hb34 := hb3.trans (hb4.mono hb3.size)
    refine ⟨_, rfl, hb34, ?_⟩
    refine wd_conv rfl rfl Tryd.underlying64 Tryd.underlying21 rfl ?_
    refine wd_assign rfl rfl rfl ?_
    refine wd_done ?_
    have hh4 := (hb34.block rb (lt_of_some hh)).trans hh
    refine wk_seq ?_
    refine wk_reg (id := 6) ?_
    refine wk_move rfl rfl ?_
    refine wk_move rfl rfl ?_
    refine wk_nilCheck rfl rfl ?_
    refine wk_field (f := 0) (i := Tryd.t22) rfl Tryd.underlying75 rfl (by kernel_rfl) (by decide) rfl ?_
    refine wk_load rfl Tryd.underlying22 rfl (by exact cell_blk (by with_reducible assumption) rfl) rfl ?_
    refine wk_sliceL (m := 4) byteT rfl rfl (by omega) rfl ?_
    refine wk_nilCheck rfl rfl ?_
    refine wk_field (f := 0) (i := Tryd.t22) rfl Tryd.underlying75 rfl (by kernel_rfl) (by decide) rfl ?_
    refine wk_store1 (i := Tryd.t22) rfl rfl hh4 (by kernel_rfl) rfl rfl rfl (show 0 < 2 by decide) ?_
    have hh5 := setRow_heap _ _ _ (#[.slice A s.rest.length c, .bool s.bad].setIfInBounds 0 (.slice (if c = 4 then A else A.map (·.add 4)) (s.rest.length - 4) (c - 4))) _ _ hh4
    refine wk_nil ?_
    refine wk_seq ?_
    refine wk_reg (id := 7) ?_
    refine wk_move rfl rfl ?_
    refine wk_assign rfl rfl ?_
    refine wk_nil ?_
    have hg := grown_trans1 (grown_below1 (b := rb) hb34) (grown_setRow1 w4 rb (#[.slice A s.rest.length c, .bool s.bad].setIfInBounds 0 (.slice (if c = 4 then A else A.map (·.add 4)) (s.rest.length - 4) (c - 4))))
    have hd := BytesRep.drop (m := 4) hbr (by omega)
    exact wk_ret r0 rfl rfl ⟨_, rfl, ⟨_, rfl, .int _ _⟩, ⟨_, hh5, hd.keep (keeps_by hg hX)⟩, hg⟩
theorem rd_readUint64 (w : World) (X : Nat → Prop) (rb : Nat) (s : RS) (hr : RdOK w X 75 rb s) (hX : X rb) :
    Calls Tryd.prog 62 #[.pointer (some ⟨rb, 0, none⟩)] w fun e w' => e = .returned (.int .u64 ((rNat 8 s).1 : Nat)) ∧ RdOK w' X 75 rb (rNat 8 s).2 ∧ w.grownBy w' (some rb) := by
  obtain ⟨v, hh, hs⟩ := hr
  obtain ⟨A, c, rfl, hc, hA⟩ := src_form hs
  refine calls_wk (args := [.pointer (some ⟨rb, 0, none⟩)]) Tryd.func62 rfl rfl ?_
  by_cases hl : s.rest.length < 8
  · have c1 : cmp .lss (s.rest.length : Int) 8 = some true := by simp [cmp]; omega
    have e0 : rNat 8 s = (0, .fail) := by unfold rNat; rw [if_pos hl]
    rw [e0]
    refine wk_seq ?_
    refine wk_reg (id := 0) ?_
    refine wk_assign rfl rfl ?_
    refine wk_nil ?_
    refine wk_seq ?_
    refine wk_seq ?_
    refine wk_reg (id := 1) ?_
    refine wk_move rfl rfl ?_
    refine wk_nilCheck rfl rfl ?_
    refine wk_field (f := 0) (i := Tryd.t22) rfl Tryd.underlying75 rfl (by kernel_rfl) (by decide) rfl ?_
    refine wk_load rfl Tryd.underlying22 rfl (by exact cell_blk (by with_reducible assumption) rfl) rfl ?_
    refine wk_slen rfl Tryd.underlying22 rfl ?_
    refine wk_cmp rfl rfl (by with_reducible assumption) rfl ?_
    refine wk_nil ?_
    refine wk_condT rfl ?_
    refine wk_seq ?_
    refine wk_reg (id := 2) ?_
    refine wk_move rfl rfl ?_
    refine wk_nilCheck rfl rfl ?_
    refine wk_field (f := 1) (i := Tryd.t4) rfl Tryd.underlying75 rfl (by kernel_rfl) (by decide) rfl ?_
    refine wk_store1 (i := Tryd.t4) rfl rfl hh (by kernel_rfl) rfl rfl rfl (show 1 < 2 by decide) ?_
    have hh1 := setRow_heap _ _ _ (#[.slice A s.rest.length c, .bool s.bad].setIfInBounds 1 (.bool true)) _ _ hh
    refine wk_nil ?_
    refine wk_seq ?_
    refine wk_reg (id := 3) ?_
    refine wk_move rfl rfl ?_
    refine wk_nilCheck rfl rfl ?_
    refine wk_field (f := 0) (i := Tryd.t22) rfl Tryd.underlying75 rfl (by kernel_rfl) (by decide) rfl ?_
    refine wk_store1 (i := Tryd.t22) rfl rfl hh1 (by kernel_rfl) rfl rfl rfl (show 0 < 2 by decide) ?_
    have hh2 := setRow_heap _ _ _ (#[.slice A s.rest.length c, .bool true].setIfInBounds 0 (.slice none 0 0)) _ _ hh1
    refine wk_nil ?_
    refine wk_seq ?_
    refine wk_reg (id := 4) ?_
    refine wk_assign rfl rfl ?_
    refine wk_nil ?_
    exact wk_ret r0 rfl rfl ⟨rfl, ⟨.slice none 0 0, hh2, rfl⟩, grown_trans1 (grown_setRow1 _ _ _) (grown_setRow1 _ _ _)⟩
  · have c1 : cmp .lss (s.rest.length : Int) 8 = some false := by simp [cmp]; omega
    obtain ⟨l, hsrc, hrest, hbr⟩ := src_some hs (by omega)
    have e0 : rNat 8 s = (beNat (l.take 8), ⟨some (l.drop 8), s.bad⟩) := by unfold rNat; rw [if_neg hl, hrest]
    rw [e0]
    refine wk_seq ?_
    refine wk_reg (id := 0) ?_
    refine wk_assign rfl rfl ?_
    refine wk_nil ?_
    refine wk_seq ?_
    refine wk_seq ?_
    refine wk_reg (id := 1) ?_
    refine wk_move rfl rfl ?_
    refine wk_nilCheck rfl rfl ?_
    refine wk_field (f := 0) (i := Tryd.t22) rfl Tryd.underlying75 rfl (by kernel_rfl) (by decide) rfl ?_
    refine wk_load rfl Tryd.underlying22 rfl (by exact cell_blk (by with_reducible assumption) rfl) rfl ?_
    refine wk_slen rfl Tryd.underlying22 rfl ?_
    refine wk_cmp rfl rfl (by with_reducible assumption) rfl ?_
    refine wk_nil ?_
    refine wk_condF rfl ?_
    refine wk_skip ?_
    refine wk_seq ?_
    refine wk_draw (fun w' => Below w.heap.size w w') [(0, true), (1, true), (2, false), (3, true), (4, true), (5, false), (6, true)] mixedR pq0 (by kernel_rfl) (by kernel_rfl) (by kernel_rfl) (fun w5 _ h5 => h5) ?_
    intro w3 h3 hb3
    refine wd_loadA (ti := Tryd.t97) rfl rfl Tryd.underlying97 rfl (by kernel_rfl) (vs := []) rfl (fun w' hS j v h => by simp at h) rfl ?_
    refine wd_move rfl rfl rfl ?_
    refine wd_nilCheck1 (by with_reducible assumption) rfl rfl rfl ?_
    refine wd_field (f := 0) (ti := Tryd.t22) rfl rfl Tryd.underlying75 rfl (by kernel_rfl) (by decide) rfl ?_
    refine wd_load rfl rfl Tryd.underlying22 rfl (fun w_ hS_ => cell_blk ((Below.block hS_ _ (lt_of_some (by with_reducible assumption))).trans (by with_reducible assumption)) rfl) rfl ?_
    refine wd_call rfl Tryd.call67 (vs := [.agg #[], .slice A s.rest.length c]) rfl rfl ((c_BE64 w3 X (.slice A s.rest.length c) l (hbr.keep ⟨hb3.size, fun b hb _ => hb3.block b hb⟩) (by rw [← hrest]; omega)).mono ?_)
    rintro e w4 ⟨rfl, hb4⟩
    have hb34 := hb3.trans (hb4.mono hb3.size)
    refine ⟨_, rfl, hb34, ?_⟩
    refine wd_assign rfl rfl rfl ?_
    refine wd_done ?_
    have hh4 := (hb34.block rb (lt_of_some hh)).trans hh
    refine wk_seq ?_
    refine wk_reg (id := 6) ?_
    refine wk_move rfl rfl ?_
    refine wk_move rfl rfl ?_
    refine wk_nilCheck rfl rfl ?_
    refine wk_field (f := 0) (i := Tryd.t22) rfl Tryd.underlying75 rfl (by kernel_rfl) (by decide) rfl ?_
    refine wk_load rfl Tryd.underlying22 rfl (by exact cell_blk (by with_reducible assumption) rfl) rfl ?_
    refine wk_sliceL (m := 8) byteT rfl rfl (by omega) rfl ?_
    refine wk_nilCheck rfl rfl ?_
    refine wk_field (f := 0) (i := Tryd.t22) rfl Tryd.underlying75 rfl (by kernel_rfl) (by decide) rfl ?_
    refine wk_store1 (i := Tryd.t22) rfl rfl hh4 (by kernel_rfl) rfl rfl rfl (show 0 < 2 by decide) ?_
    have hh5 := setRow_heap _ _ _ (#[.slice A s.rest.length c, .bool s.bad].setIfInBounds 0 (.slice (if c = 8 then A else A.map (·.add 8)) (s.rest.length - 8) (c - 8))) _ _ hh4
    refine wk_nil ?_
    refine wk_seq ?_
    refine wk_reg (id := 7) ?_
    refine wk_move rfl rfl ?_
    refine wk_assign rfl rfl ?_
    refine wk_nil ?_
    have hg := grown_trans1 (grown_below1 (b := rb) hb34) (grown_setRow1 w4 rb (#[.slice A s.rest.length c, .bool s.bad].setIfInBounds 0 (.slice (if c = 8 then A else A.map (·.add 8)) (s.rest.length - 8) (c - 8))))
    have hd := BytesRep.drop (m := 8) hbr (by omega)
    exact wk_ret r0 rfl rfl ⟨rfl, ⟨_, hh5, hd.keep (keeps_by hg hX)⟩, hg⟩
theorem rd_Uvarint (w : World) (X : Nat → Prop) (rb : Nat) (s : RS) (hr : RdOK w X 75 rb s) (hX : X rb) :
    Calls Tryd.prog 48 #[.pointer (some ⟨rb, 0, none⟩)] w fun e w' => e = .returned (.int .u32 ((rUv s).1 : Nat)) ∧ RdOK w' X 75 rb (rUv s).2 ∧ w.grownBy w' (some rb) := by
  obtain ⟨v, hh, hs⟩ := hr
  obtain ⟨A, c, rfl, hc, hA⟩ := src_form hs
  refine calls_wk (args := [.pointer (some ⟨rb, 0, none⟩)]) Tryd.func48 rfl rfl ?_
  refine wk_seq ?_
  refine wk_reg (id := 0) ?_
  refine wk_assign rfl rfl ?_
  refine wk_nil ?_
  refine wk_seq ?_
  refine wk_reg (id := 1) ?_
  refine wk_move rfl rfl ?_
  refine wk_nilCheck rfl rfl ?_
  refine wk_field (f := 0) (i := Tryd.t22) rfl Tryd.underlying75 rfl (by kernel_rfl) (by decide) rfl ?_
  refine wk_load rfl Tryd.underlying22 rfl (by exact cell_blk (by with_reducible assumption) rfl) rfl ?_
  refine wk_call Tryd.call63 (vs := [.slice A s.rest.length c]) rfl rfl ((c_Uvarint w X (.slice A s.rest.length c) s.rest (src_bytes0 hs)).mono ?_)
  rintro e w1 ⟨n, k, rfl, hans, rfl⟩
  refine ⟨_, rfl, ?_⟩
  unfold UvAns at hans
  cases hu : rUvL 4 1 0 s.rest with
  | none =>
    rw [hu] at hans
    have c1 : cmp .leq k 0 = some true := by simp only [cmp, Option.some.injEq, decide_eq_true_eq]; exact hans
    have e0 : rUv s = (0, .fail) := by unfold rUv; rw [hu]
    rw [e0]
    refine wk_move rfl rfl ?_
    refine wk_extract rfl rfl rfl ?_
    refine wk_extract rfl rfl rfl ?_
    refine wk_assign rfl rfl ?_
    refine wk_assign rfl rfl ?_
    refine wk_nil ?_
    refine wk_seq ?_
    refine wk_seq ?_
    refine wk_reg (id := 2) ?_
    refine wk_move rfl rfl ?_
    refine wk_cmp rfl rfl (by with_reducible assumption) rfl ?_
    refine wk_nil ?_
    refine wk_condT rfl ?_
    refine wk_seq ?_
    refine wk_reg (id := 3) ?_
    refine wk_move rfl rfl ?_
    refine wk_nilCheck rfl rfl ?_
    refine wk_field (f := 1) (i := Tryd.t4) rfl Tryd.underlying75 rfl (by kernel_rfl) (by decide) rfl ?_
    refine wk_store1 (i := Tryd.t4) rfl rfl hh (by kernel_rfl) rfl rfl rfl (show 1 < 2 by decide) ?_
    have hh1 := setRow_heap _ _ _ (#[.slice A s.rest.length c, .bool s.bad].setIfInBounds 1 (.bool true)) _ _ hh
    refine wk_nil ?_
    refine wk_seq ?_
    refine wk_reg (id := 4) ?_
    refine wk_move rfl rfl ?_
    refine wk_nilCheck rfl rfl ?_
    refine wk_field (f := 0) (i := Tryd.t22) rfl Tryd.underlying75 rfl (by kernel_rfl) (by decide) rfl ?_
    refine wk_store1 (i := Tryd.t22) rfl rfl hh1 (by kernel_rfl) rfl rfl rfl (show 0 < 2 by decide) ?_
    have hh2 := setRow_heap _ _ _ (#[.slice A s.rest.length c, .bool true].setIfInBounds 0 (.slice none 0 0)) _ _ hh1
    refine wk_nil ?_
    refine wk_seq ?_
    refine wk_reg (id := 5) ?_
    refine wk_assign rfl rfl ?_
    refine wk_nil ?_
    exact wk_ret r0 rfl rfl ⟨rfl, ⟨.slice none 0 0, hh2, rfl⟩, grown_trans1 (grown_setRow1 _ _ _) (grown_setRow1 _ _ _)⟩
  | some p =>
    obtain ⟨x, r⟩ := p
    rw [hu] at hans
    obtain ⟨rfl, j, rfl, hj0, hjl, rfl⟩ := hans
    have c1 : cmp .leq (j : Int) 0 = some false := by simp only [cmp, Option.some.injEq, decide_eq_false_iff_not]; omega
    obtain ⟨l, hsrc, hrest, hbr⟩ := src_some hs (by omega)
    have e0 : rUv s = (n, ⟨some (s.rest.drop j), s.bad⟩) := by unfold rUv; rw [hu]
    rw [e0]
    refine wk_move rfl rfl ?_
    refine wk_extract rfl rfl rfl ?_
    refine wk_extract rfl rfl rfl ?_
    refine wk_assign rfl rfl ?_
    refine wk_assign rfl rfl ?_
    refine wk_nil ?_
    refine wk_seq ?_
    refine wk_seq ?_
    refine wk_reg (id := 2) ?_
    refine wk_move rfl rfl ?_
    refine wk_cmp rfl rfl (by with_reducible assumption) rfl ?_
    refine wk_nil ?_
    refine wk_condF rfl ?_
    refine wk_skip ?_
    refine wk_seq ?_
    refine wk_reg (id := 6) ?_
    refine wk_move rfl rfl ?_
    refine wk_move rfl rfl ?_
    refine wk_nilCheck rfl rfl ?_
    refine wk_field (f := 0) (i := Tryd.t22) rfl Tryd.underlying75 rfl (by kernel_rfl) (by decide) rfl ?_
    refine wk_load rfl Tryd.underlying22 rfl (by exact cell_blk (by with_reducible assumption) rfl) rfl ?_
    refine wk_move rfl rfl ?_
    refine wk_sliceL (m := j) byteT rfl rfl hjl rfl ?_
    refine wk_nilCheck rfl rfl ?_
    refine wk_field (f := 0) (i := Tryd.t22) rfl Tryd.underlying75 rfl (by kernel_rfl) (by decide) rfl ?_
    refine wk_store1 (i := Tryd.t22) rfl rfl hh (by kernel_rfl) rfl rfl rfl (show 0 < 2 by decide) ?_
    have hh5 := setRow_heap _ _ _ (#[.slice A s.rest.length c, .bool s.bad].setIfInBounds 0 (.slice (if c = j then A else A.map (·.add j)) (s.rest.length - j) (c - j))) _ _ hh
    refine wk_nil ?_
    refine wk_seq ?_
    refine wk_reg (id := 7) ?_
    refine wk_move rfl rfl ?_
    refine wk_assign rfl rfl ?_
    refine wk_nil ?_
    have hg := grown_setRow1 w1 rb (#[.slice A s.rest.length c, .bool s.bad].setIfInBounds 0 (.slice (if c = j then A else A.map (·.add j)) (s.rest.length - j) (c - j)))
    rw [hrest] at hjl
    have hd := BytesRep.drop (m := j) hbr (by rw [hrest]; exact hjl)
    rw [← hrest] at hd
    exact wk_ret r0 rfl rfl ⟨rfl, ⟨_, hh5, hd.keep (keeps_by hg hX)⟩, hg⟩
theorem rd_CompactArrayLen : RLContract Tryd.prog 75 33 true := by
  rintro w X rb s hr hX hlt
  refine calls_wk (args := [.pointer (some ⟨rb, 0, none⟩)]) Tryd.func33 rfl rfl ?_
  refine wk_seq ?_
  refine wk_reg (id := 0) ?_
  refine wk_assign rfl rfl ?_
  refine wk_nil ?_
  refine wk_seq ?_
  refine wk_reg (id := 1) ?_
  refine wk_move rfl rfl ?_
  refine wk_call Tryd.call48 (vs := [.pointer (some ⟨rb, 0, none⟩)]) rfl rfl ((rd_Uvarint w X rb s hr hX).mono ?_)
  rintro e w1 ⟨rfl, hr1, hg1⟩
  refine ⟨_, rfl, ?_⟩
  generalize hr0 : IntKind.i32.wrap (IntKind.i32.wrap ((rUv s).1 : Nat) - 1) = r at *
  have e0 : rlen true s = rLenOk r (rUv s).2 := by rw [← hr0]; rfl
  have hrr := i32_range (IntKind.i32.wrap ((rUv s).1 : Nat) - 1)
  rw [hr0] at hrr
  generalize (rUv s).2 = s1 at *
  rw [e0]
  obtain ⟨v, hh, hs⟩ := hr1
  obtain ⟨A, c, rfl, hc, hA⟩ := src_form hs
  have hw : IntKind.i64.wrap r = r := i64wr r (by omega) (by omega)
  by_cases hl : (s1.rest.length : Int) < r
  · have c1 : cmp .lss (s1.rest.length : Int) r = some true := by simp [cmp, hl]
    have e1 : rLenOk r s1 = (0, .fail) := by unfold rLenOk; rw [if_pos hl]
    rw [e1]
    refine wk_conv rfl Tryd.underlying64 Tryd.underlying21 rfl ?_
    refine wk_subV rfl rfl (by with_reducible assumption) rfl ?_
    refine wk_assign rfl rfl ?_
    refine wk_nil ?_
    refine wk_seq ?_
    refine wk_seq ?_
    refine wk_reg (id := 2) ?_
    refine wk_move rfl rfl ?_
    refine wk_nilCheck rfl rfl ?_
    refine wk_field (f := 0) (i := Tryd.t22) rfl Tryd.underlying75 rfl (by kernel_rfl) (by decide) rfl ?_
    refine wk_load rfl Tryd.underlying22 rfl (by exact cell_blk (by with_reducible assumption) rfl) rfl ?_
    refine wk_slen rfl Tryd.underlying22 rfl ?_
    refine wk_move rfl rfl ?_
    refine wk_convV rfl Tryd.underlying21 Tryd.underlying3 (by with_reducible assumption) rfl ?_
    refine wk_cmp rfl rfl (by with_reducible assumption) rfl ?_
    refine wk_nil ?_
    refine wk_condT rfl ?_
    refine wk_seq ?_
    refine wk_reg (id := 3) ?_
    refine wk_move rfl rfl ?_
    refine wk_nilCheck rfl rfl ?_
    refine wk_field (f := 1) (i := Tryd.t4) rfl Tryd.underlying75 rfl (by kernel_rfl) (by decide) rfl ?_
    refine wk_store1 (i := Tryd.t4) rfl rfl hh (by kernel_rfl) rfl rfl rfl (show 1 < 2 by decide) ?_
    have hh1 := setRow_heap _ _ _ (#[.slice A s1.rest.length c, .bool s1.bad].setIfInBounds 1 (.bool true)) _ _ hh
    refine wk_nil ?_
    refine wk_seq ?_
    refine wk_reg (id := 4) ?_
    refine wk_move rfl rfl ?_
    refine wk_nilCheck rfl rfl ?_
    refine wk_field (f := 0) (i := Tryd.t22) rfl Tryd.underlying75 rfl (by kernel_rfl) (by decide) rfl ?_
    refine wk_store1 (i := Tryd.t22) rfl rfl hh1 (by kernel_rfl) rfl rfl rfl (show 0 < 2 by decide) ?_
    have hh2 := setRow_heap _ _ _ (#[.slice A s1.rest.length c, .bool true].setIfInBounds 0 (.slice none 0 0)) _ _ hh1
    refine wk_nil ?_
    refine wk_seq ?_
    refine wk_reg (id := 5) ?_
    refine wk_assign rfl rfl ?_
    refine wk_nil ?_
    exact wk_ret r0 rfl rfl ⟨rfl, ⟨.slice none 0 0, hh2, rfl⟩, grown_trans1 hg1 (grown_trans1 (grown_setRow1 _ _ _) (grown_setRow1 _ _ _))⟩
  · have c1 : cmp .lss (s1.rest.length : Int) r = some false := by simp [cmp]; omega
    have e1 : rLenOk r s1 = (r, s1) := by unfold rLenOk; rw [if_neg hl]
    rw [e1]
    refine wk_conv rfl Tryd.underlying64 Tryd.underlying21 rfl ?_
    refine wk_subV rfl rfl (by with_reducible assumption) rfl ?_
    refine wk_assign rfl rfl ?_
    refine wk_nil ?_
    refine wk_seq ?_
    refine wk_seq ?_
    refine wk_reg (id := 2) ?_
    refine wk_move rfl rfl ?_
    refine wk_nilCheck rfl rfl ?_
    refine wk_field (f := 0) (i := Tryd.t22) rfl Tryd.underlying75 rfl (by kernel_rfl) (by decide) rfl ?_
    refine wk_load rfl Tryd.underlying22 rfl (by exact cell_blk (by with_reducible assumption) rfl) rfl ?_
    refine wk_slen rfl Tryd.underlying22 rfl ?_
    refine wk_move rfl rfl ?_
    refine wk_convV rfl Tryd.underlying21 Tryd.underlying3 (by with_reducible assumption) rfl ?_
    refine wk_cmp rfl rfl (by with_reducible assumption) rfl ?_
    refine wk_nil ?_
    refine wk_condF rfl ?_
    refine wk_skip ?_
    refine wk_seq ?_
    refine wk_reg (id := 6) ?_
    refine wk_move rfl rfl ?_
    refine wk_assign rfl rfl ?_
    refine wk_nil ?_
    exact wk_ret r0 rfl rfl ⟨rfl, ⟨_, hh, hs⟩, hg1⟩
theorem rd_ArrayLen : RLContract Tryd.prog 75 34 false := by
  rintro w X rb s hr hX hlt
  refine calls_wk (args := [.pointer (some ⟨rb, 0, none⟩)]) Tryd.func34 rfl rfl ?_
  refine wk_seq ?_
  refine wk_reg (id := 0) ?_
  refine wk_assign rfl rfl ?_
  refine wk_nil ?_
  refine wk_seq ?_
  refine wk_reg (id := 1) ?_
  refine wk_move rfl rfl ?_
  refine wk_call Tryd.call31 (vs := [.pointer (some ⟨rb, 0, none⟩)]) rfl rfl ((rd_Int32 w X rb s hr hX hlt).mono ?_)
  rintro e w1 ⟨v1, rfl, ⟨_, hcv, hrep⟩, hr1, hg1⟩
  refine ⟨_, rfl, ?_⟩
  have hp : rprim .i32 s = ([.int .i32 (rI .i32 4 s).1], (rI .i32 4 s).2) := rfl
  rw [hp] at hcv hr1
  cases hcv
  have := hrep.int_inv
  subst this
  generalize hr0 : (rI .i32 4 s).1 = r at *
  have e0 : rlen false s = rLenOk r (rI .i32 4 s).2 := by rw [← hr0]; rfl
  have hrr : -2147483648 ≤ r ∧ r < 2147483648 := by rw [← hr0]; exact i32_range _
  generalize (rI .i32 4 s).2 = s1 at *
  rw [e0]
  obtain ⟨v, hh, hs⟩ := hr1
  obtain ⟨A, c, rfl, hc, hA⟩ := src_form hs
  have hw : IntKind.i64.wrap r = r := i64wr r (by omega) (by omega)
  by_cases hl : (s1.rest.length : Int) < r
  · have c1 : cmp .lss (s1.rest.length : Int) r = some true := by simp [cmp, hl]
    have e1 : rLenOk r s1 = (0, .fail) := by unfold rLenOk; rw [if_pos hl]
    rw [e1]
    refine wk_assign rfl rfl ?_
    refine wk_nil ?_
    refine wk_seq ?_
    refine wk_seq ?_
    refine wk_reg (id := 2) ?_
    refine wk_move rfl rfl ?_
    refine wk_nilCheck rfl rfl ?_
    refine wk_field (f := 0) (i := Tryd.t22) rfl Tryd.underlying75 rfl (by kernel_rfl) (by decide) rfl ?_
    refine wk_load rfl Tryd.underlying22 rfl (by exact cell_blk (by with_reducible assumption) rfl) rfl ?_
    refine wk_slen rfl Tryd.underlying22 rfl ?_
    refine wk_move rfl rfl ?_
    refine wk_convV rfl Tryd.underlying21 Tryd.underlying3 (by with_reducible assumption) rfl ?_
    refine wk_cmp rfl rfl (by with_reducible assumption) rfl ?_
    refine wk_nil ?_
    refine wk_condT rfl ?_
    refine wk_seq ?_
    refine wk_reg (id := 3) ?_
    refine wk_move rfl rfl ?_
    refine wk_nilCheck rfl rfl ?_
    refine wk_field (f := 1) (i := Tryd.t4) rfl Tryd.underlying75 rfl (by kernel_rfl) (by decide) rfl ?_
    refine wk_store1 (i := Tryd.t4) rfl rfl hh (by kernel_rfl) rfl rfl rfl (show 1 < 2 by decide) ?_
    have hh1 := setRow_heap _ _ _ (#[.slice A s1.rest.length c, .bool s1.bad].setIfInBounds 1 (.bool true)) _ _ hh
    refine wk_nil ?_
    refine wk_seq ?_
    refine wk_reg (id := 4) ?_
    refine wk_move rfl rfl ?_
    refine wk_nilCheck rfl rfl ?_
    refine wk_field (f := 0) (i := Tryd.t22) rfl Tryd.underlying75 rfl (by kernel_rfl) (by decide) rfl ?_
    refine wk_store1 (i := Tryd.t22) rfl rfl hh1 (by kernel_rfl) rfl rfl rfl (show 0 < 2 by decide) ?_
    have hh2 := setRow_heap _ _ _ (#[.slice A s1.rest.length c, .bool true].setIfInBounds 0 (.slice none 0 0)) _ _ hh1
    refine wk_nil ?_
    refine wk_seq ?_
    refine wk_reg (id := 5) ?_
    refine wk_assign rfl rfl ?_
    refine wk_nil ?_
    exact wk_ret r0 rfl rfl ⟨rfl, ⟨.slice none 0 0, hh2, rfl⟩, grown_trans1 hg1 (grown_trans1 (grown_setRow1 _ _ _) (grown_setRow1 _ _ _))⟩
  · have c1 : cmp .lss (s1.rest.length : Int) r = some false := by simp [cmp]; omega
    have e1 : rLenOk r s1 = (r, s1) := by unfold rLenOk; rw [if_neg hl]
    rw [e1]
    refine wk_assign rfl rfl ?_
    refine wk_nil ?_
    refine wk_seq ?_
    refine wk_seq ?_
    refine wk_reg (id := 2) ?_
    refine wk_move rfl rfl ?_
    refine wk_nilCheck rfl rfl ?_
    refine wk_field (f := 0) (i := Tryd.t22) rfl Tryd.underlying75 rfl (by kernel_rfl) (by decide) rfl ?_
    refine wk_load rfl Tryd.underlying22 rfl (by exact cell_blk (by with_reducible assumption) rfl) rfl ?_
    refine wk_slen rfl Tryd.underlying22 rfl ?_
    refine wk_move rfl rfl ?_
    refine wk_convV rfl Tryd.underlying21 Tryd.underlying3 (by with_reducible assumption) rfl ?_
    refine wk_cmp rfl rfl (by with_reducible assumption) rfl ?_
    refine wk_nil ?_
    refine wk_condF rfl ?_
    refine wk_skip ?_
    refine wk_seq ?_
    refine wk_reg (id := 6) ?_
    refine wk_move rfl rfl ?_
    refine wk_assign rfl rfl ?_
    refine wk_nil ?_
    exact wk_ret r0 rfl rfl ⟨rfl, ⟨_, hh, hs⟩, hg1⟩
end Go.Proofs.YtbcfmhgcpijfnaaDoor
