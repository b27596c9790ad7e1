/-
  The reader's methods, walked.
-/
import Derived.Test.YtbcfmhgcpijfnaaDoorEngH
import Derived.Test.YtbcfmhgcpijfnaaDoorKbin
set_option linter.unusedVariables false
set_option linter.unusedSimpArgs false
namespace Go.Proofs.YtbcfmhgcpijfnaaDoor
open Go Go.RowKit Go.Proofs.Eng
set_option maxRecDepth 20000
set_option maxHeartbeats 4000000

theorem src_form {w : World} {X : Nat → Prop} {v : Value} {s : RS} (h : SrcRep w X v s.src) : ∃ A c, v = .slice A s.rest.length c ∧ s.rest.length ≤ c ∧ (∀ a, A = some a → ∃ b o, a = ⟨b, o, none⟩) := by
  unfold RS.rest
  cases hs : s.src with
  | none => rw [hs] at h; exact ⟨none, 0, h, Nat.le_refl _, fun a h => by cases h⟩
  | some l =>
    rw [hs] at h
    obtain ⟨b, o, n, c, rfl, _, _, hl, hc, _⟩ := h
    subst hl
    exact ⟨_, c, rfl, hc, fun a h => ⟨b, o, (Option.some.inj h).symm⟩⟩
theorem grown_setRow1 (w : World) (b : Nat) (cs : Array Value) : w.grownBy (w.setRow b cs) (some b) :=
  ⟨rfl, rfl, rfl, by simp [World.setRow], fun k _ hk => setRow_other w b k cs (fun e => hk (by rw [e]))⟩
theorem grown_trans1 {w w1 w2 : World} {b : Nat} (h : w.grownBy w1 (some b)) (h' : w1.grownBy w2 (some b)) : w.grownBy w2 (some b) :=
  ⟨h'.os.trans h.os, h'.tape.trans h.tape, h'.output.trans h.output, Nat.le_trans h.size h'.size, fun k hk hne => (h'.block k (Nat.lt_of_lt_of_le hk h.size) hne).trans (h.block k hk hne)⟩
theorem rd_Span (w : World) (X : Nat → Prop) (rb : Nat) (s : RS) (l : Int) (hr : RdOK w X 75 rb s) (hX : X rb) :
    Calls Tryd.prog 50 #[.pointer (some ⟨rb, 0, none⟩), .int .i64 l] w fun e w' => ∃ v, e = .returned v ∧ SrcRep w' X v (rSpan l s).1 ∧ RdOK w' X 75 rb (rSpan l s).2 ∧ w.grownBy w' (some rb) := by
  obtain ⟨v, hh, hs⟩ := hr
  obtain ⟨A, c, rfl, hc, hA⟩ := src_form hs
  refine calls_wk (args := [.pointer (some ⟨rb, 0, none⟩), .int .i64 l]) Tryd.func50 rfl rfl ?_
  by_cases hl : (s.rest.length : Int) < l
  · have c1 : cmp .lss (s.rest.length : Int) l = some true := by simp [cmp, hl]
    have e : rSpan l s = (none, .fail) := by unfold rSpan; rw [if_pos (.inl hl)]
    rw [e]
    refine wk_seq ?_
    refine wk_reg (id := 0) ?_
    refine wk_assign rfl rfl ?_
    refine wk_nil ?_
    refine wk_seq ?_
    refine wk_seq ?_
    refine wk_reg (id := 1) ?_
    refine wk_move rfl rfl ?_
    refine wk_nilCheck rfl rfl ?_
    refine wk_field (f := 0) (i := Tryd.t22) rfl Tryd.underlying75 rfl (by kernel_rfl) (by decide) rfl ?_
    refine wk_load rfl Tryd.underlying22 rfl (by exact cell_blk (by with_reducible assumption) rfl) rfl ?_
    refine wk_slen rfl Tryd.underlying22 rfl ?_
    refine wk_move rfl rfl ?_
    refine wk_cmp rfl rfl (by with_reducible assumption) rfl ?_
    refine wk_move rfl rfl ?_
    refine wk_gF rfl rfl ?_
    refine wk_gF rfl rfl ?_
    refine wk_pick rfl rfl rfl rfl ?_
    refine wk_nil ?_
    refine wk_condT rfl ?_
    refine wk_seq ?_
    refine wk_reg (id := 2) ?_
    refine wk_move rfl rfl ?_
    refine wk_nilCheck rfl rfl ?_
    refine wk_field (f := 1) (i := Tryd.t4) rfl Tryd.underlying75 rfl (by kernel_rfl) (by decide) rfl ?_
    refine wk_store1 (i := Tryd.t4) rfl rfl hh (by kernel_rfl) rfl rfl rfl (show 1 < 2 by decide) ?_
    have hh1 := setRow_heap _ _ _ (#[.slice A s.rest.length c, .bool s.bad].setIfInBounds 1 (.bool true)) _ _ hh
    refine wk_nil ?_
    refine wk_seq ?_
    refine wk_reg (id := 3) ?_
    refine wk_move rfl rfl ?_
    refine wk_nilCheck rfl rfl ?_
    refine wk_field (f := 0) (i := Tryd.t22) rfl Tryd.underlying75 rfl (by kernel_rfl) (by decide) rfl ?_
    refine wk_store1 (i := Tryd.t22) rfl rfl hh1 (by kernel_rfl) rfl rfl rfl (show 0 < 2 by decide) ?_
    have hh2 := setRow_heap _ _ _ (#[.slice A s.rest.length c, .bool true].setIfInBounds 0 (.slice none 0 0)) _ _ hh1
    refine wk_nil ?_
    refine wk_seq ?_
    refine wk_reg (id := 4) ?_
    refine wk_assign rfl rfl ?_
    refine wk_nil ?_
    exact wk_ret r0 rfl rfl ⟨_, rfl, rfl, ⟨.slice none 0 0, hh2, rfl⟩, grown_trans1 (grown_setRow1 _ _ _) (grown_setRow1 _ _ _)⟩
  · have c1 : cmp .lss (s.rest.length : Int) l = some false := by simp [cmp, hl]
    by_cases hl0 : l < 0
    · have c2 : cmp .lss l 0 = some true := by simp [cmp, hl0]
      have e : rSpan l s = (none, .fail) := by unfold rSpan; rw [if_pos (.inr hl0)]
      rw [e]
      refine wk_seq ?_
      refine wk_reg (id := 0) ?_
      refine wk_assign rfl rfl ?_
      refine wk_nil ?_
      refine wk_seq ?_
      refine wk_seq ?_
      refine wk_reg (id := 1) ?_
      refine wk_move rfl rfl ?_
      refine wk_nilCheck rfl rfl ?_
      refine wk_field (f := 0) (i := Tryd.t22) rfl Tryd.underlying75 rfl (by kernel_rfl) (by decide) rfl ?_
      refine wk_load rfl Tryd.underlying22 rfl (by exact cell_blk (by with_reducible assumption) rfl) rfl ?_
      refine wk_slen rfl Tryd.underlying22 rfl ?_
      refine wk_move rfl rfl ?_
      refine wk_cmp rfl rfl (by with_reducible assumption) rfl ?_
      refine wk_move rfl rfl ?_
      refine wk_gT rfl ?_; refine wk_move rfl rfl ?_
      refine wk_gT rfl ?_; refine wk_cmp rfl rfl (by with_reducible assumption) rfl ?_
      refine wk_pick rfl rfl rfl rfl ?_
      refine wk_nil ?_
      refine wk_condT rfl ?_
      refine wk_seq ?_
      refine wk_reg (id := 2) ?_
      refine wk_move rfl rfl ?_
      refine wk_nilCheck rfl rfl ?_
      refine wk_field (f := 1) (i := Tryd.t4) rfl Tryd.underlying75 rfl (by kernel_rfl) (by decide) rfl ?_
      refine wk_store1 (i := Tryd.t4) rfl rfl hh (by kernel_rfl) rfl rfl rfl (show 1 < 2 by decide) ?_
      have hh1 := setRow_heap _ _ _ (#[.slice A s.rest.length c, .bool s.bad].setIfInBounds 1 (.bool true)) _ _ hh
      refine wk_nil ?_
      refine wk_seq ?_
      refine wk_reg (id := 3) ?_
      refine wk_move rfl rfl ?_
      refine wk_nilCheck rfl rfl ?_
      refine wk_field (f := 0) (i := Tryd.t22) rfl Tryd.underlying75 rfl (by kernel_rfl) (by decide) rfl ?_
      refine wk_store1 (i := Tryd.t22) rfl rfl hh1 (by kernel_rfl) rfl rfl rfl (show 0 < 2 by decide) ?_
      have hh2 := setRow_heap _ _ _ (#[.slice A s.rest.length c, .bool true].setIfInBounds 0 (.slice none 0 0)) _ _ hh1
      refine wk_nil ?_
      refine wk_seq ?_
      refine wk_reg (id := 4) ?_
      refine wk_assign rfl rfl ?_
      refine wk_nil ?_
      exact wk_ret r0 rfl rfl ⟨_, rfl, rfl, ⟨.slice none 0 0, hh2, rfl⟩, grown_trans1 (grown_setRow1 _ _ _) (grown_setRow1 _ _ _)⟩
    · have c2 : cmp .lss l 0 = some false := by simp [cmp, hl0]
      obtain ⟨m, rfl⟩ : ∃ m : Nat, l = (m : Int) := ⟨l.toNat, by omega⟩
      have hm : m ≤ s.rest.length := by omega
      refine wk_seq ?_
      refine wk_reg (id := 0) ?_
      refine wk_assign rfl rfl ?_
      refine wk_nil ?_
      refine wk_seq ?_
      refine wk_seq ?_
      refine wk_reg (id := 1) ?_
      refine wk_move rfl rfl ?_
      refine wk_nilCheck rfl rfl ?_
      refine wk_field (f := 0) (i := Tryd.t22) rfl Tryd.underlying75 rfl (by kernel_rfl) (by decide) rfl ?_
      refine wk_load rfl Tryd.underlying22 rfl (by exact cell_blk (by with_reducible assumption) rfl) rfl ?_
      refine wk_slen rfl Tryd.underlying22 rfl ?_
      refine wk_move rfl rfl ?_
      refine wk_cmp rfl rfl (by with_reducible assumption) rfl ?_
      refine wk_move rfl rfl ?_
      refine wk_gT rfl ?_; refine wk_move rfl rfl ?_
      refine wk_gT rfl ?_; refine wk_cmp rfl rfl (by with_reducible assumption) rfl ?_
      refine wk_pick rfl rfl rfl rfl ?_
      refine wk_nil ?_
      refine wk_condF rfl ?_
      refine wk_skip ?_
      refine wk_seq ?_
      refine wk_reg (id := 5) ?_
      refine wk_move rfl rfl ?_
      refine wk_nilCheck rfl rfl ?_
      refine wk_field (f := 0) (i := Tryd.t22) rfl Tryd.underlying75 rfl (by kernel_rfl) (by decide) rfl ?_
      refine wk_load rfl Tryd.underlying22 rfl (by exact cell_blk (by with_reducible assumption) rfl) rfl ?_
      refine wk_move rfl rfl ?_
      refine wk_move rfl rfl ?_
      refine wk_sliceHM byteT rfl rfl rfl (by omega) hA rfl ?_
      refine wk_assign rfl rfl ?_
      refine wk_nil ?_
      refine wk_seq ?_
      refine wk_reg (id := 6) ?_
      refine wk_move rfl rfl ?_
      refine wk_move rfl rfl ?_
      refine wk_nilCheck rfl rfl ?_
      refine wk_field (f := 0) (i := Tryd.t22) rfl Tryd.underlying75 rfl (by kernel_rfl) (by decide) rfl ?_
      refine wk_load rfl Tryd.underlying22 rfl (by exact cell_blk (by with_reducible assumption) rfl) rfl ?_
      refine wk_move rfl rfl ?_
      refine wk_sliceL byteT rfl rfl hm rfl ?_
      refine wk_nilCheck rfl rfl ?_
      refine wk_field (f := 0) (i := Tryd.t22) rfl Tryd.underlying75 rfl (by kernel_rfl) (by decide) rfl ?_
      refine wk_store1 (i := Tryd.t22) rfl rfl hh (by kernel_rfl) rfl rfl rfl (show 0 < 2 by decide) ?_
      have hh1 := setRow_heap _ _ _ (#[.slice A s.rest.length c, .bool s.bad].setIfInBounds 0 (.slice (if c = m then A else A.map (·.add m)) (s.rest.length - m) (c - m))) _ _ hh
      have hk := keeps_by (grown_setRow1 w rb (#[.slice A s.rest.length c, .bool s.bad].setIfInBounds 0 (.slice (if c = m then A else A.map (·.add m)) (s.rest.length - m) (c - m)))) hX
      refine wk_nil ?_
      refine wk_seq ?_
      refine wk_reg (id := 7) ?_
      refine wk_move rfl rfl ?_
      refine wk_assign rfl rfl ?_
      refine wk_nil ?_
      have key : (rSpan (m : Int) s).2.bad = s.bad ∧ SrcRep w X (.slice A m m) (rSpan (m : Int) s).1 ∧ SrcRep w X (.slice (if c = m then A else A.map (·.add m)) (s.rest.length - m) (c - m)) (rSpan (m : Int) s).2.src := by
        unfold rSpan
        rw [if_neg (by omega)]
        cases hsrc : s.src with
        | none =>
          rw [hsrc] at hs
          simp only [SrcRep, Value.slice.injEq] at hs
          obtain ⟨rfl, h2, rfl⟩ := hs
          obtain rfl : m = 0 := by omega
          simp only [h2, hsrc]
          exact ⟨trivial, rfl, rfl⟩
        | some b =>
          rw [hsrc] at hs
          exact ⟨rfl, BytesRep.take hs hm, BytesRep.drop hs hm⟩
      exact wk_ret r0 rfl rfl ⟨.slice A m m, rfl, key.2.1.keep hk, ⟨.slice (if c = m then A else A.map (·.add m)) (s.rest.length - m) (c - m), by rw [key.1]; exact hh1, key.2.2.keep hk⟩, grown_setRow1 _ _ _⟩
end Go.Proofs.YtbcfmhgcpijfnaaDoor
