/-
  The same appends where the bytes' block may lie anywhere but in given blocks.
-/
import Derived.Test.YthejiimocbfagaaHdr
set_option linter.unusedVariables false
set_option linter.unusedSimpArgs false
namespace Go.Proofs.Eng
open Go Go.RowKit
attribute [local semireducible] wk wkD
/-- What lies outside X is as it was. -/
structure GrX (X : Nat → Prop) (w w' : World) : Prop where
  os : w'.os = w.os
  tape : w'.tape = w.tape
  output : w'.output = w.output
  size : w.heap.size ≤ w'.heap.size
  block : ∀ k, k < w.heap.size → ¬ X k → w'.heap[k]? = w.heap[k]?
theorem GrX.refl (X : Nat → Prop) (w : World) : GrX X w w := ⟨rfl, rfl, rfl, Nat.le_refl _, fun _ _ _ => rfl⟩
theorem GrX.trans {X : Nat → Prop} {w w1 w2 : World} (h : GrX X w w1) (h' : GrX X w1 w2) : GrX X w w2 :=
  ⟨h'.os.trans h.os, h'.tape.trans h.tape, h'.output.trans h.output, Nat.le_trans h.size h'.size, fun k hk hx => (h'.block k (Nat.lt_of_lt_of_le hk h.size) hx).trans (h.block k hk hx)⟩
theorem GrX.keeps {X : Nat → Prop} {w w' : World} (h : GrX X w w') : Keeps X w w' := ⟨h.size, fun k hk hx => h.block k hk hx⟩
theorem GrX.of_grown {X : Nat → Prop} {w w' : World} {row : Option Nat} (h : w.grownBy w' row) (hr : ∀ g, row = some g → X g) : GrX X w w' :=
  ⟨h.os, h.tape, h.output, h.size, fun k hk hx => h.block k hk (fun e => hx (hr k e.symm))⟩
theorem GrX.of_below {X : Nat → Prop} {w w' : World} (h : Below w.heap.size w w') : GrX X w w' := ⟨h.os, h.tape, h.output, h.size, fun k hk _ => h.block k hk⟩
theorem GrX.below {X : Nat → Prop} {w w' : World} {B : Nat} (h : GrX X w w') (hX : ∀ k, k < B → ¬ X k) (hB : B ≤ w.heap.size) : Below B w w' := ⟨h.os, h.tape, h.output, h.size, fun k hk => h.block k (by omega) (hX k hk)⟩
section
variable {P : Program} {w : World} {X Y : Nat → Prop} {t e u : TypeId} {d v : Value} {bs xs : List UInt8} {x y : Operand}
theorem app_repX (hB : ByteT P t e) (hX : ∀ b, w.heap.size ≤ b → X b) (hv : BytesRep0 w Y v xs) (hown : OwnB w X e d bs) (hl : bs.length + xs.length ≤ lim) (ρ : Operand → Value) (o : Oper) (ho : o.op = .call ⟨.builtin .append, #[x, y], #[t, t]⟩) (hx : ρ x = d) (hy : ρ y = v) :
    ∃ d' w', (execOp ρ o).run P w = .ok (.value d') w' ∧ (OwnB w' X e d' (bs ++ xs) ∧ GrX X w w') := by
  obtain ⟨d', w', h1, h2, h3⟩ := app_in hB hX hv hown hl ρ o ho hx hy
  exact ⟨d', w', h1, h2, .of_grown h3 hown.2⟩
theorem app_strG {base : Nat} {s : ByteArray} (hB : ByteT P t e) (hu : P.underlying u = some .string) (hown : Own w base e d bs) (hb : base ≤ w.heap.size) (hl : bs.length + s.data.toList.length ≤ lim)
    (ρ : Operand → Value) (o : Oper) (ho : o.op = .call ⟨.builtin .append, #[x, y], #[t, u]⟩) (hx : ρ x = d) (hy : ρ y = .string s) : ∃ d' w', (execOp ρ o).run P w = .ok (.value d') w' ∧ (Own w' base e d' (bs ++ s.data.toList) ∧ w.grownBy w' d.ownBlock) := by
  obtain ⟨i, hi, hz, hs, hby⟩ := hB.info
  rw [lim_eq] at hl
  have hss : s.data.toList.length = s.size := by rw [Array.length_toList]; rfl
  obtain ⟨d', w', h1, h2, h3, _⟩ := Lib.run_append_own_string (P := P) w base t u o.type e i hB.sl hu hi hz hs hby d bs.length (bs.map bv) hown s (by unfold maxLen; omega) (by omega) hb
  refine ⟨d', w', ?_, ?_, h3⟩
  · simp [execOp, ho, resolve, invoke, builtin, hx, hy, h1]
  · unfold Own
    rw [List.length_append, List.map_append, hss]
    exact h2
theorem app_newX (hB : ByteT P t e) (hX : ∀ b, w.heap.size ≤ b → X b) (hown : OwnB w X e d bs) (hl : bs.length + xs.length ≤ lim) {cur : Array Value} (hc : cur.toList = xs.map bv) {n : Nat} (hn : xs.length = n) (hv : v = .slice (some ⟨w.heap.size, 0, none⟩) n n)
    (ρ : Operand → Value) (o : Oper) (ho : o.op = .call ⟨.builtin .append, #[x, y], #[t, t]⟩) (hx : ρ x = d) (hy : ρ y = v) :
    ∃ d' w', (execOp ρ o).run P (w.alloc (.cells cur e)) = .ok (.value d') w' ∧ (OwnB w' X e d' (bs ++ xs) ∧ GrX X w w') := by
  subst hn
  subst hv
  have hb := below1 w (.cells cur e)
  have hk : Keeps (fun _ => False) w (w.alloc (.cells cur e)) := ⟨hb.size, fun k hk _ => hb.block k hk⟩
  have hr : BytesRep0 (w.alloc (.cells cur e)) (fun _ => False) (.slice (some ⟨w.heap.size, 0, none⟩) xs.length xs.length) xs := by
    refine .inr ⟨w.heap.size, 0, _, _, rfl, id, lt_of_some (heap_alloc_new w _), rfl, Nat.le_refl _, fun i b hi => ?_⟩
    have := cells_of_block (heap_alloc_new w (.cells cur e)) hc i b hi
    rwa [add_addr] at this
  obtain ⟨d', w', h1, h2, h3⟩ := app_repX hB (fun q h => hX q (Nat.le_trans hb.size h)) hr (hown.keep hk (fun _ _ _ h => h)) hl ρ o ho hx hy
  exact ⟨d', w', h1, h2, (GrX.of_below hb).trans h3⟩
end
end Go.Proofs.Eng
namespace Go.Proofs.Ythejiimocbfagaa
open Go Go.RowKit Go.Proofs.Eng
set_option maxRecDepth 20000
set_option maxHeartbeats 4000000
theorem AppendUvarint_in (w : World) (X : Nat → Prop) (d : Value) (bs : List UInt8) (n : Nat) (hX : ∀ b, w.heap.size ≤ b → X b) (hown : OwnB w X 5 d bs) (hn : n < 4294967296) (hs : bs.length + (uv n).length ≤ lim) :
    Calls Try.prog 35 #[d, .int .u32 n] w fun e w' => ∃ d', e = .returned d' ∧ OwnB w' X 5 d' (bs ++ uv n) ∧ GrX X w w' := by
  have e0 : ∀ k m : Nat, m = 2 ^ k → (n : Int).fdiv (2 ^ k) = ((n / m : Nat) : Int) := fun k m h => by rw [fdiv_nat, h]
  have e7 : (n : Int).fdiv (2 ^ min (Int.toNat 7) IntKind.u32.bits) = ((n / 128 : Nat) : Int) := e0 7 128 rfl
  have e14 : (n : Int).fdiv (2 ^ min (Int.toNat 14) IntKind.u32.bits) = ((n / 16384 : Nat) : Int) := e0 14 16384 rfl
  have e21 : (n : Int).fdiv (2 ^ min (Int.toNat 21) IntKind.u32.bits) = ((n / 2097152 : Nat) : Int) := e0 21 2097152 rfl
  have e28 : (n : Int).fdiv (2 ^ min (Int.toNat 28) IntKind.u32.bits) = ((n / 268435456 : Nat) : Int) := e0 28 268435456 rfl
  refine calls_wk (args := [d, .int .u32 n]) Try.func35 rfl rfl ?_
  refine wk_seq ?_
  refine wk_reg (id := 0) ?_
  refine wk_assign rfl rfl ?_
  refine wk_nil ?_
  refine wk_seq ?_
  refine wk_seq ?_
  refine wk_reg (id := 1) ?_
  refine wk_move rfl rfl ?_
  refine wk_call Try.call36 (vs := [.int .u32 n]) rfl rfl ((UvarintLen_any w n hn).mono ?_)
  rintro e w' ⟨rfl, rfl⟩
  refine ⟨_, rfl, ?_⟩
  rcases uv_cases n hn with ⟨h1, hu⟩ | ⟨h0, h1, hu⟩ | ⟨h0, h1, hu⟩ | ⟨h0, h1, hu⟩ | ⟨h1, hu⟩
  · have hl : uvl n = 1 := by unfold uvl; rw [if_pos h1]
    rw [hl]
    refine wk_nil ?_
    refine wk_block ?_
    refine wk_seq ?_
    refine wk_reg (id := 2) ?_
    refine wk_cmp rfl rfl rfl rfl ?_
    refine wk_assign rfl rfl ?_
    refine wk_nil ?_
    refine wk_condF rfl ?_
    refine wk_seq ?_
    refine wk_reg (id := 4) ?_
    refine wk_cmp rfl rfl rfl rfl ?_
    refine wk_assign rfl rfl ?_
    refine wk_nil ?_
    refine wk_condF rfl ?_
    refine wk_seq ?_
    refine wk_reg (id := 6) ?_
    refine wk_cmp rfl rfl rfl rfl ?_
    refine wk_assign rfl rfl ?_
    refine wk_nil ?_
    refine wk_condF rfl ?_
    refine wk_seq ?_
    refine wk_reg (id := 8) ?_
    refine wk_cmp rfl rfl rfl rfl ?_
    refine wk_assign rfl rfl ?_
    refine wk_nil ?_
    refine wk_condF rfl ?_
    refine wk_seq ?_
    refine wk_reg (id := 10) ?_
    refine wk_cmp rfl rfl rfl rfl ?_
    refine wk_assign rfl rfl ?_
    refine wk_nil ?_
    refine wk_condT rfl ?_
    refine wk_seq ?_
    refine wk_reg (id := 11) ?_
    refine wk_move rfl rfl ?_
    refine wk_move rfl rfl ?_
    refine wk_conv rfl Try.underlying69 Try.underlying5 rfl ?_
    refine wk_bs1 byteT rfl rfl ?_
    refine wk_appR rfl rfl (app_newX byteT hX hown (xs := uv n) hs ?_ (by rw [hu]; rfl) rfl) rfl ?_
    · rw [hu]
      exact cons_eq (lastg n h1) (rfl)
    · rintro d' w' ⟨ho, hg⟩
      refine wk_assign rfl rfl ?_
      refine wk_nil ?_
      exact wk_ret (rb r0) rfl rfl ⟨d', rfl, ho, hg⟩
  · have hl : uvl n = 2 := by unfold uvl; rw [if_neg (by omega), if_pos h1]
    rw [hl]
    refine wk_nil ?_
    refine wk_block ?_
    refine wk_seq ?_
    refine wk_reg (id := 2) ?_
    refine wk_cmp rfl rfl rfl rfl ?_
    refine wk_assign rfl rfl ?_
    refine wk_nil ?_
    refine wk_condF rfl ?_
    refine wk_seq ?_
    refine wk_reg (id := 4) ?_
    refine wk_cmp rfl rfl rfl rfl ?_
    refine wk_assign rfl rfl ?_
    refine wk_nil ?_
    refine wk_condF rfl ?_
    refine wk_seq ?_
    refine wk_reg (id := 6) ?_
    refine wk_cmp rfl rfl rfl rfl ?_
    refine wk_assign rfl rfl ?_
    refine wk_nil ?_
    refine wk_condF rfl ?_
    refine wk_seq ?_
    refine wk_reg (id := 8) ?_
    refine wk_cmp rfl rfl rfl rfl ?_
    refine wk_assign rfl rfl ?_
    refine wk_nil ?_
    refine wk_condT rfl ?_
    refine wk_seq ?_
    refine wk_reg (id := 9) ?_
    refine wk_move rfl rfl ?_
    refine wk_move rfl rfl ?_
    refine wk_and rfl rfl rfl ?_
    refine wk_or rfl rfl rfl ?_
    refine wk_conv rfl Try.underlying69 Try.underlying5 rfl ?_
    refine wk_move rfl rfl ?_
    refine wk_shr rfl rfl (by decide) rfl ?_
    refine wk_conv rfl Try.underlying69 Try.underlying5 rfl ?_
    refine wk_bs2 byteT rfl rfl rfl ?_
    refine wk_appR rfl rfl (app_newX byteT hX hown (xs := uv n) hs ?_ (by rw [hu]; rfl) rfl) rfl ?_
    · rw [hu]
      exact cons_eq (grp n hn) (cons_eq ((by rw [e7]; exact lastg5 _ (by omega))) (rfl))
    · rintro d' w' ⟨ho, hg⟩
      refine wk_assign rfl rfl ?_
      refine wk_nil ?_
      exact wk_ret (rb r0) rfl rfl ⟨d', rfl, ho, hg⟩
  · have hl : uvl n = 3 := by unfold uvl; rw [if_neg (by omega), if_neg (by omega), if_pos h1]
    rw [hl]
    refine wk_nil ?_
    refine wk_block ?_
    refine wk_seq ?_
    refine wk_reg (id := 2) ?_
    refine wk_cmp rfl rfl rfl rfl ?_
    refine wk_assign rfl rfl ?_
    refine wk_nil ?_
    refine wk_condF rfl ?_
    refine wk_seq ?_
    refine wk_reg (id := 4) ?_
    refine wk_cmp rfl rfl rfl rfl ?_
    refine wk_assign rfl rfl ?_
    refine wk_nil ?_
    refine wk_condF rfl ?_
    refine wk_seq ?_
    refine wk_reg (id := 6) ?_
    refine wk_cmp rfl rfl rfl rfl ?_
    refine wk_assign rfl rfl ?_
    refine wk_nil ?_
    refine wk_condT rfl ?_
    refine wk_seq ?_
    refine wk_reg (id := 7) ?_
    refine wk_move rfl rfl ?_
    refine wk_move rfl rfl ?_
    refine wk_and rfl rfl rfl ?_
    refine wk_or rfl rfl rfl ?_
    refine wk_conv rfl Try.underlying69 Try.underlying5 rfl ?_
    refine wk_move rfl rfl ?_
    refine wk_shr rfl rfl (by decide) rfl ?_
    refine wk_and rfl rfl rfl ?_
    refine wk_or rfl rfl rfl ?_
    refine wk_conv rfl Try.underlying69 Try.underlying5 rfl ?_
    refine wk_move rfl rfl ?_
    refine wk_shr rfl rfl (by decide) rfl ?_
    refine wk_conv rfl Try.underlying69 Try.underlying5 rfl ?_
    refine wk_bs3 byteT rfl rfl rfl rfl ?_
    refine wk_appR rfl rfl (app_newX byteT hX hown (xs := uv n) hs ?_ (by rw [hu]; rfl) rfl) rfl ?_
    · rw [hu]
      exact cons_eq (grp n hn) (cons_eq ((by rw [e7]; exact grp _ (by omega))) (cons_eq ((by rw [e14]; exact lastg5 _ (by omega))) (rfl)))
    · rintro d' w' ⟨ho, hg⟩
      refine wk_assign rfl rfl ?_
      refine wk_nil ?_
      exact wk_ret (rb r0) rfl rfl ⟨d', rfl, ho, hg⟩
  · have hl : uvl n = 4 := by unfold uvl; rw [if_neg (by omega), if_neg (by omega), if_neg (by omega), if_pos h1]
    rw [hl]
    refine wk_nil ?_
    refine wk_block ?_
    refine wk_seq ?_
    refine wk_reg (id := 2) ?_
    refine wk_cmp rfl rfl rfl rfl ?_
    refine wk_assign rfl rfl ?_
    refine wk_nil ?_
    refine wk_condF rfl ?_
    refine wk_seq ?_
    refine wk_reg (id := 4) ?_
    refine wk_cmp rfl rfl rfl rfl ?_
    refine wk_assign rfl rfl ?_
    refine wk_nil ?_
    refine wk_condT rfl ?_
    refine wk_seq ?_
    refine wk_reg (id := 5) ?_
    refine wk_move rfl rfl ?_
    refine wk_move rfl rfl ?_
    refine wk_and rfl rfl rfl ?_
    refine wk_or rfl rfl rfl ?_
    refine wk_conv rfl Try.underlying69 Try.underlying5 rfl ?_
    refine wk_move rfl rfl ?_
    refine wk_shr rfl rfl (by decide) rfl ?_
    refine wk_and rfl rfl rfl ?_
    refine wk_or rfl rfl rfl ?_
    refine wk_conv rfl Try.underlying69 Try.underlying5 rfl ?_
    refine wk_move rfl rfl ?_
    refine wk_shr rfl rfl (by decide) rfl ?_
    refine wk_and rfl rfl rfl ?_
    refine wk_or rfl rfl rfl ?_
    refine wk_conv rfl Try.underlying69 Try.underlying5 rfl ?_
    refine wk_move rfl rfl ?_
    refine wk_shr rfl rfl (by decide) rfl ?_
    refine wk_conv rfl Try.underlying69 Try.underlying5 rfl ?_
    refine wk_bs4 byteT rfl rfl rfl rfl rfl ?_
    refine wk_appR rfl rfl (app_newX byteT hX hown (xs := uv n) hs ?_ (by rw [hu]; rfl) rfl) rfl ?_
    · rw [hu]
      exact cons_eq (grp n hn) (cons_eq ((by rw [e7]; exact grp _ (by omega))) (cons_eq ((by rw [e14]; exact grp _ (by omega))) (cons_eq ((by rw [e21]; exact lastg5 _ (by omega))) (rfl))))
    · rintro d' w' ⟨ho, hg⟩
      refine wk_assign rfl rfl ?_
      refine wk_nil ?_
      exact wk_ret (rb r0) rfl rfl ⟨d', rfl, ho, hg⟩
  · have hl : uvl n = 5 := by unfold uvl; rw [if_neg (by omega), if_neg (by omega), if_neg (by omega), if_neg (by omega)]
    rw [hl]
    refine wk_nil ?_
    refine wk_block ?_
    refine wk_seq ?_
    refine wk_reg (id := 2) ?_
    refine wk_cmp rfl rfl rfl rfl ?_
    refine wk_assign rfl rfl ?_
    refine wk_nil ?_
    refine wk_condT rfl ?_
    refine wk_seq ?_
    refine wk_reg (id := 3) ?_
    refine wk_move rfl rfl ?_
    refine wk_move rfl rfl ?_
    refine wk_and rfl rfl rfl ?_
    refine wk_or rfl rfl rfl ?_
    refine wk_conv rfl Try.underlying69 Try.underlying5 rfl ?_
    refine wk_move rfl rfl ?_
    refine wk_shr rfl rfl (by decide) rfl ?_
    refine wk_and rfl rfl rfl ?_
    refine wk_or rfl rfl rfl ?_
    refine wk_conv rfl Try.underlying69 Try.underlying5 rfl ?_
    refine wk_move rfl rfl ?_
    refine wk_shr rfl rfl (by decide) rfl ?_
    refine wk_and rfl rfl rfl ?_
    refine wk_or rfl rfl rfl ?_
    refine wk_conv rfl Try.underlying69 Try.underlying5 rfl ?_
    refine wk_move rfl rfl ?_
    refine wk_shr rfl rfl (by decide) rfl ?_
    refine wk_and rfl rfl rfl ?_
    refine wk_or rfl rfl rfl ?_
    refine wk_conv rfl Try.underlying69 Try.underlying5 rfl ?_
    refine wk_move rfl rfl ?_
    refine wk_shr rfl rfl (by decide) rfl ?_
    refine wk_conv rfl Try.underlying69 Try.underlying5 rfl ?_
    refine wk_bs5 byteT rfl rfl rfl rfl rfl rfl ?_
    refine wk_appR rfl rfl (app_newX byteT hX hown (xs := uv n) hs ?_ (by rw [hu]; rfl) rfl) rfl ?_
    · rw [hu]
      exact cons_eq (grp n hn) (cons_eq ((by rw [e7]; exact grp _ (by omega))) (cons_eq ((by rw [e14]; exact grp _ (by omega))) (cons_eq ((by rw [e21]; exact grp _ (by omega))) (cons_eq ((by rw [e28]; exact lastg5 _ (by omega))) (rfl)))))
    · rintro d' w' ⟨ho, hg⟩
      refine wk_assign rfl rfl ?_
      refine wk_nil ?_
      exact wk_ret (rb r0) rfl rfl ⟨d', rfl, ho, hg⟩
theorem AppendVarint_in (w : World) (X : Nat → Prop) (d : Value) (bs : List UInt8) (n : Int) (z : Nat) (hz : Zig n z) (hX : ∀ b, w.heap.size ≤ b → X b) (hown : OwnB w X 5 d bs) (hs : bs.length + (uv z).length ≤ lim) :
    Calls Try.prog 33 #[d, .int .i32 n] w fun e w' => ∃ d', e = .returned d' ∧ OwnB w' X 5 d' (bs ++ uv z) ∧ GrX X w w' := by
  refine calls_wk (args := [d, .int .i32 n]) Try.func33 rfl rfl ?_
  rcases hz with ⟨rfl, rfl⟩ | ⟨i, rfl, hi, rfl⟩
  · have e0 : IntKind.u32.wrap (-1) = 4294967295 := by decide
    have e1 : IntKind.u32.wrap (4294967295 * 2 ^ 1) = 4294967294 := by decide
    have e2 : IntKind.u32.wrap ((-1 : Int).fdiv (2 ^ (min (Int.toNat 31) IntKind.i32.bits))) = 4294967295 := by decide
    have e3 : IntKind.u32.wrap ((BitVec.ofInt IntKind.u32.bits 4294967294 ^^^ BitVec.ofInt IntKind.u32.bits 4294967295).toNat) = ((1 : Nat) : Int) := by decide
    refine wk_seq ?_
    refine wk_reg (id := 0) ?_
    refine wk_assign rfl rfl ?_
    refine wk_nil ?_
    refine wk_seq ?_
    refine wk_reg (id := 1) ?_
    refine wk_move rfl rfl ?_
    refine wk_move rfl rfl ?_
    refine wk_convV rfl Try.underlying21 Try.underlying69 (by with_reducible assumption) rfl ?_
    refine wk_shl 1 rfl rfl rfl (by with_reducible assumption) rfl ?_
    refine wk_move rfl rfl ?_
    refine wk_shr rfl rfl (by decide) rfl ?_
    refine wk_convV rfl Try.underlying21 Try.underlying69 (by with_reducible assumption) rfl ?_
    refine wk_xorV rfl rfl e3 rfl ?_
    skip
    refine wk_call Try.call35 (vs := [d, .int .u32 ((1 : Nat) : Int)]) rfl rfl ((AppendUvarint_in w X d bs 1 hX hown (by decide) hs).mono ?_)
    rintro e w1 ⟨d1, rfl, ho1, hb1⟩
    refine ⟨_, rfl, ?_⟩
    refine wk_assign rfl rfl ?_
    refine wk_nil ?_
    exact wk_ret r0 rfl rfl ⟨d1, rfl, ho1, hb1⟩
  · have e0 : IntKind.u32.wrap (i : Int) = (i : Int) := u32_nat i (by omega)
    have e1 : IntKind.u32.wrap ((i : Int) * 2 ^ 1) = ((2 * i : Nat) : Int) := by
      have : (i : Int) * 2 ^ 1 = ((2 * i : Nat) : Int) := by omega
      rw [this]
      exact u32_nat _ (by omega)
    have e2 : IntKind.u32.wrap ((i : Int).fdiv (2 ^ (min (Int.toNat 31) IntKind.i32.bits))) = 0 := by
      have : (i : Int).fdiv (2 ^ (min (Int.toNat 31) IntKind.i32.bits)) = 0 := fdiv_small i 31 (by omega)
      rw [this]
      rfl
    have e3 : IntKind.u32.wrap ((BitVec.ofInt IntKind.u32.bits ((2 * i : Nat) : Int) ^^^ BitVec.ofInt IntKind.u32.bits 0).toNat) = ((2 * i : Nat) : Int) := xor0_32 (2 * i) (by omega)
    refine wk_seq ?_
    refine wk_reg (id := 0) ?_
    refine wk_assign rfl rfl ?_
    refine wk_nil ?_
    refine wk_seq ?_
    refine wk_reg (id := 1) ?_
    refine wk_move rfl rfl ?_
    refine wk_move rfl rfl ?_
    refine wk_convV rfl Try.underlying21 Try.underlying69 (by with_reducible assumption) rfl ?_
    refine wk_shl 1 rfl rfl rfl (by with_reducible assumption) rfl ?_
    refine wk_move rfl rfl ?_
    refine wk_shr rfl rfl (by decide) rfl ?_
    refine wk_convV rfl Try.underlying21 Try.underlying69 (by with_reducible assumption) rfl ?_
    refine wk_xorV rfl rfl e3 rfl ?_
    skip
    refine wk_call Try.call35 (vs := [d, .int .u32 ((2 * i : Nat) : Int)]) rfl rfl ((AppendUvarint_in w X d bs (2 * i) hX hown (by omega) hs).mono ?_)
    rintro e w1 ⟨d1, rfl, ho1, hb1⟩
    refine ⟨_, rfl, ?_⟩
    refine wk_assign rfl rfl ?_
    refine wk_nil ?_
    exact wk_ret r0 rfl rfl ⟨d1, rfl, ho1, hb1⟩
theorem AppendVarintString_in (w : World) (base : Nat) (X : Nat → Prop) (hXb : ∀ q, X q → base ≤ q) (hb : base ≤ w.heap.size) (d : Value) (bs : List UInt8) (s : ByteArray) (hX : ∀ b, w.heap.size ≤ b → X b) (hown : OwnB w X 5 d bs) (hsz : s.size < 1073741824) (hs : bs.length + ((uv (2 * s.size)).length + s.size) ≤ lim) :
    Calls Try.prog 27 #[d, .string s] w fun e w' => ∃ d', e = .returned d' ∧ Own w' base 5 d' (bs ++ (uv (2 * s.size) ++ s.data.toList)) ∧ GrX X w w' := by
  have hss : s.data.toList.length = s.size := by rw [Array.length_toList]; rfl
  have hw : IntKind.i32.wrap (s.size : Int) = (s.size : Int) := i32w _ (by omega)
  refine calls_wk (args := [d, .string s]) Try.func27 rfl rfl ?_
  refine wk_seq ?_
  refine wk_reg (id := 0) ?_
  refine wk_assign rfl rfl ?_
  refine wk_nil ?_
  refine wk_seq ?_
  refine wk_reg (id := 1) ?_
  refine wk_move rfl rfl ?_
  refine wk_move rfl rfl ?_
  refine wk_strlen rfl Try.underlying9 rfl ?_
  refine wk_convV rfl Try.underlying3 Try.underlying21 (by with_reducible assumption) rfl ?_
  refine wk_call Try.call33 (vs := [d, .int .i32 (s.size : Int)]) rfl rfl ((AppendVarint_in w X d bs _ _ (Zig.nat hsz) hX hown (by omega)).mono ?_)
  rintro e w1 ⟨d1, rfl, ho1, hb1⟩
  refine ⟨_, rfl, ?_⟩
  refine wk_assign rfl rfl ?_
  refine wk_nil ?_
  refine wk_seq ?_
  refine wk_reg (id := 2) ?_
  refine wk_move rfl rfl ?_
  refine wk_move rfl rfl ?_
  refine wk_appR rfl rfl (app_strG byteT Try.underlying9 (ho1.to_own hXb) (Nat.le_trans hb hb1.size) (by rw [List.length_append, hss]; omega)) rfl ?_
  rintro d' w' ⟨ho, hg0⟩
  have hg := GrX.of_grown (X := X) hg0 ho1.2
  refine wk_assign rfl rfl ?_
  refine wk_nil ?_
  exact wk_ret r0 rfl rfl ⟨d', rfl, by rw [← List.append_assoc]; exact ho, hb1.trans hg⟩
end Go.Proofs.Ythejiimocbfagaa
