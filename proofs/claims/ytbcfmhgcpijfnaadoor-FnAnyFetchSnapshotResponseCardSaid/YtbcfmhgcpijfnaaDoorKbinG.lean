/-
  A number in groups of seven bits is appended: nothing but the row that it is appended to, and new blocks, turns.
-/
import Derived.Test.YtbcfmhgcpijfnaaDoorKbin
import Derived.Test.YtbcfmhgcpijfnaaDoorEngD
set_option linter.unusedVariables false
set_option linter.unusedSimpArgs false
namespace Go.Proofs.Eng
open Go Go.RowKit
theorem grown_transR {w w1 w2 : World} {row : Option Nat} (h : w.grownBy w1 row) (h' : w1.grownBy w2 row) : w.grownBy w2 row :=
  ⟨h'.os.trans h.os, h'.tape.trans h.tape, h'.output.trans h.output, Nat.le_trans h.size h'.size, fun k hk hne => (h'.block k (Nat.lt_of_lt_of_le hk h.size) hne).trans (h.block k hk hne)⟩
theorem grown_new {w w' : World} {o : Obj} {row : Option Nat} (h : (w.alloc o).grownBy w' row) : w.grownBy w' row := grown_transR (World.grownBy_alloc w o row) h
theorem app_newG {P : Program} {t e : TypeId} (hB : ByteT P t e) {w : World} {base : Nat} {d v : Value} {bs xs : List UInt8} {cur : Array Value} (hown : Own w base e d bs) (hb : base ≤ w.heap.size) (hl : bs.length + xs.length ≤ lim) (hc : cur.toList = xs.map bv)
    {n : Nat} (hn : xs.length = n) (hv : v = .slice (some ⟨w.heap.size, 0, none⟩) n n) {x y : Operand} (ρ : Operand → Value) (o : Oper) (ho : o.op = .call ⟨.builtin .append, #[x, y], #[t, t]⟩) (hx : ρ x = d) (hy : ρ y = v) :
    ∃ d' w', (execOp ρ o).run P (w.alloc (.cells cur e)) = .ok (.value d') w' ∧ Own w' base e d' (bs ++ xs) ∧ (w.alloc (.cells cur e)).grownBy w' d.ownBlock := by
  subst hn
  have hown' := hown.below ((Below.refl w.heap.size w).alloc (Nat.le_refl _) (.cells cur e))
  have hb' : base ≤ (w.alloc (.cells cur e)).heap.size := by simp; omega
  obtain ⟨d', w', h1, h2, h3⟩ := run_append_cells hB ho hx (hy.trans hv) hown' (cells_of_block (heap_alloc_new w _) hc) hb' hl
  exact ⟨d', w', h1, h2, h3⟩
theorem wk_appendG {P : Program} {Q : Exit → Act → World → Prop} {nT : Nat} {σ : Sv} {k : List TD} {w : World} {all : Array Oper} {l : List Oper} {ty : TypeId} {ps : String} {af : Array Edge} {d : Nat} {x y : Operand} {t t' : TypeId} {u v : Value} {base e : Nat} {bs xs : List UInt8} {row : Option Nat} (hx : evs σ x = some u) (hy : evs σ y = some v)
    (hr : ∀ (ρ : Operand → Value) (o : Oper), o.op = .call ⟨.builtin .append, #[x, y], #[t, t']⟩ → ρ x = u → ρ y = v → ∃ d' w', (execOp ρ o).run P w = .ok (.value d') w' ∧ Own w' base e d' (bs ++ xs) ∧ w.grownBy w' row)
    (hd : Nat.blt d nT = true) (h : ∀ d' w', Own w' base e d' (bs ++ xs) → w.grownBy w' row → wk P Q nT ((d, d') :: σ) (.ops all l :: k) w') :
    wk P Q nT σ (.ops all (⟨some d, .call ⟨.builtin .append, #[x, y], #[t, t']⟩, ty, ps, af, none⟩ :: l) :: k) w := by
  unfold wk
  intro a ha
  obtain ⟨d', w', h1, h2, h3⟩ := hr a.eval ⟨some d, .call ⟨.builtin .append, #[x, y], #[t, t']⟩, ty, ps, af, none⟩ rfl (ha.ev hx) (ha.ev hy)
  have hh := h d' w' h2 h3
  unfold wk at hh
  exact wpT_value rfl h1 (hh _ (ha.put hd d'))
end Go.Proofs.Eng
namespace Go.Proofs.YtbcfmhgcpijfnaaDoor
open Go Go.RowKit Go.Proofs.Eng
set_option maxRecDepth 20000
set_option maxHeartbeats 4000000
theorem AppendUvarint_grow (w : World) (base : Nat) (d : Value) (bs : List UInt8) (n : Nat) (hown : Own w base 5 d bs) (hb : base ≤ w.heap.size) (hn : n < 4294967296) (hs : bs.length + (uv n).length ≤ lim) :
    Calls Tryd.prog 22 #[d, .int .u32 n] w fun e w' => ∃ d', e = .returned d' ∧ Own w' base 5 d' (bs ++ uv n) ∧ w.grownBy w' d.ownBlock := by
  have e0 : ∀ k m : Nat, m = 2 ^ k → (n : Int).fdiv (2 ^ k) = ((n / m : Nat) : Int) := fun k m h => by rw [fdiv_nat, h]
  have e7 : (n : Int).fdiv (2 ^ min (Int.toNat 7) IntKind.u32.bits) = ((n / 128 : Nat) : Int) := e0 7 128 rfl
  have e14 : (n : Int).fdiv (2 ^ min (Int.toNat 14) IntKind.u32.bits) = ((n / 16384 : Nat) : Int) := e0 14 16384 rfl
  have e21 : (n : Int).fdiv (2 ^ min (Int.toNat 21) IntKind.u32.bits) = ((n / 2097152 : Nat) : Int) := e0 21 2097152 rfl
  have e28 : (n : Int).fdiv (2 ^ min (Int.toNat 28) IntKind.u32.bits) = ((n / 268435456 : Nat) : Int) := e0 28 268435456 rfl
  refine calls_wk (args := [d, .int .u32 n]) Tryd.func22 rfl rfl ?_
  refine wk_seq ?_
  refine wk_reg (id := 0) ?_
  refine wk_assign rfl rfl ?_
  refine wk_nil ?_
  refine wk_seq ?_
  refine wk_seq ?_
  refine wk_reg (id := 1) ?_
  refine wk_move rfl rfl ?_
  refine wk_call Tryd.call55 (vs := [.int .u32 n]) rfl rfl ((UvarintLen_any w n hn).mono ?_)
  rintro e w' ⟨rfl, rfl⟩
  refine ⟨_, rfl, ?_⟩
  rcases uv_cases n hn with ⟨h1, hu⟩ | ⟨h0, h1, hu⟩ | ⟨h0, h1, hu⟩ | ⟨h0, h1, hu⟩ | ⟨h1, hu⟩
  · have hl : uvl n = 1 := by unfold uvl; rw [if_pos h1]
    rw [hl]
    refine wk_nil ?_
    refine wk_block ?_
    refine wk_seq ?_
    refine wk_reg (id := 2) ?_
    refine wk_cmp rfl rfl rfl rfl ?_
    refine wk_assign rfl rfl ?_
    refine wk_nil ?_
    refine wk_condF rfl ?_
    refine wk_seq ?_
    refine wk_reg (id := 4) ?_
    refine wk_cmp rfl rfl rfl rfl ?_
    refine wk_assign rfl rfl ?_
    refine wk_nil ?_
    refine wk_condF rfl ?_
    refine wk_seq ?_
    refine wk_reg (id := 6) ?_
    refine wk_cmp rfl rfl rfl rfl ?_
    refine wk_assign rfl rfl ?_
    refine wk_nil ?_
    refine wk_condF rfl ?_
    refine wk_seq ?_
    refine wk_reg (id := 8) ?_
    refine wk_cmp rfl rfl rfl rfl ?_
    refine wk_assign rfl rfl ?_
    refine wk_nil ?_
    refine wk_condF rfl ?_
    refine wk_seq ?_
    refine wk_reg (id := 10) ?_
    refine wk_cmp rfl rfl rfl rfl ?_
    refine wk_assign rfl rfl ?_
    refine wk_nil ?_
    refine wk_condT rfl ?_
    refine wk_seq ?_
    refine wk_reg (id := 11) ?_
    refine wk_move rfl rfl ?_
    refine wk_move rfl rfl ?_
    refine wk_conv rfl Tryd.underlying64 Tryd.underlying5 rfl ?_
    refine wk_bs1 byteT rfl rfl ?_
    refine wk_appendG rfl rfl (app_newG byteT hown hb (xs := uv n) hs ?_ (by rw [hu]; rfl) rfl) rfl ?_
    · rw [hu]
      exact cons_eq (lastg n h1) (rfl)
    · intro d' w' ho hg
      refine wk_assign rfl rfl ?_
      refine wk_nil ?_
      exact wk_ret (rb r0) rfl rfl ⟨d', rfl, ho, grown_new hg⟩
  · have hl : uvl n = 2 := by unfold uvl; rw [if_neg (by omega), if_pos h1]
    rw [hl]
    refine wk_nil ?_
    refine wk_block ?_
    refine wk_seq ?_
    refine wk_reg (id := 2) ?_
    refine wk_cmp rfl rfl rfl rfl ?_
    refine wk_assign rfl rfl ?_
    refine wk_nil ?_
    refine wk_condF rfl ?_
    refine wk_seq ?_
    refine wk_reg (id := 4) ?_
    refine wk_cmp rfl rfl rfl rfl ?_
    refine wk_assign rfl rfl ?_
    refine wk_nil ?_
    refine wk_condF rfl ?_
    refine wk_seq ?_
    refine wk_reg (id := 6) ?_
    refine wk_cmp rfl rfl rfl rfl ?_
    refine wk_assign rfl rfl ?_
    refine wk_nil ?_
    refine wk_condF rfl ?_
    refine wk_seq ?_
    refine wk_reg (id := 8) ?_
    refine wk_cmp rfl rfl rfl rfl ?_
    refine wk_assign rfl rfl ?_
    refine wk_nil ?_
    refine wk_condT rfl ?_
    refine wk_seq ?_
    refine wk_reg (id := 9) ?_
    refine wk_move rfl rfl ?_
    refine wk_move rfl rfl ?_
    refine wk_and rfl rfl rfl ?_
    refine wk_or rfl rfl rfl ?_
    refine wk_conv rfl Tryd.underlying64 Tryd.underlying5 rfl ?_
    refine wk_move rfl rfl ?_
    refine wk_shr rfl rfl (by decide) rfl ?_
    refine wk_conv rfl Tryd.underlying64 Tryd.underlying5 rfl ?_
    refine wk_bs2 byteT rfl rfl rfl ?_
    refine wk_appendG rfl rfl (app_newG byteT hown hb (xs := uv n) hs ?_ (by rw [hu]; rfl) rfl) rfl ?_
    · rw [hu]
      exact cons_eq (grp n hn) (cons_eq ((by rw [e7]; exact lastg5 _ (by omega))) (rfl))
    · intro d' w' ho hg
      refine wk_assign rfl rfl ?_
      refine wk_nil ?_
      exact wk_ret (rb r0) rfl rfl ⟨d', rfl, ho, grown_new hg⟩
  · have hl : uvl n = 3 := by unfold uvl; rw [if_neg (by omega), if_neg (by omega), if_pos h1]
    rw [hl]
    refine wk_nil ?_
    refine wk_block ?_
    refine wk_seq ?_
    refine wk_reg (id := 2) ?_
    refine wk_cmp rfl rfl rfl rfl ?_
    refine wk_assign rfl rfl ?_
    refine wk_nil ?_
    refine wk_condF rfl ?_
    refine wk_seq ?_
    refine wk_reg (id := 4) ?_
    refine wk_cmp rfl rfl rfl rfl ?_
    refine wk_assign rfl rfl ?_
    refine wk_nil ?_
    refine wk_condF rfl ?_
    refine wk_seq ?_
    refine wk_reg (id := 6) ?_
    refine wk_cmp rfl rfl rfl rfl ?_
    refine wk_assign rfl rfl ?_
    refine wk_nil ?_
    refine wk_condT rfl ?_
    refine wk_seq ?_
    refine wk_reg (id := 7) ?_
    refine wk_move rfl rfl ?_
    refine wk_move rfl rfl ?_
    refine wk_and rfl rfl rfl ?_
    refine wk_or rfl rfl rfl ?_
    refine wk_conv rfl Tryd.underlying64 Tryd.underlying5 rfl ?_
    refine wk_move rfl rfl ?_
    refine wk_shr rfl rfl (by decide) rfl ?_
    refine wk_and rfl rfl rfl ?_
    refine wk_or rfl rfl rfl ?_
    refine wk_conv rfl Tryd.underlying64 Tryd.underlying5 rfl ?_
    refine wk_move rfl rfl ?_
    refine wk_shr rfl rfl (by decide) rfl ?_
    refine wk_conv rfl Tryd.underlying64 Tryd.underlying5 rfl ?_
    refine wk_bs3 byteT rfl rfl rfl rfl ?_
    refine wk_appendG rfl rfl (app_newG byteT hown hb (xs := uv n) hs ?_ (by rw [hu]; rfl) rfl) rfl ?_
    · rw [hu]
      exact cons_eq (grp n hn) (cons_eq ((by rw [e7]; exact grp _ (by omega))) (cons_eq ((by rw [e14]; exact lastg5 _ (by omega))) (rfl)))
    · intro d' w' ho hg
      refine wk_assign rfl rfl ?_
      refine wk_nil ?_
      exact wk_ret (rb r0) rfl rfl ⟨d', rfl, ho, grown_new hg⟩
  · have hl : uvl n = 4 := by unfold uvl; rw [if_neg (by omega), if_neg (by omega), if_neg (by omega), if_pos h1]
    rw [hl]
    refine wk_nil ?_
    refine wk_block ?_
    refine wk_seq ?_
    refine wk_reg (id := 2) ?_
    refine wk_cmp rfl rfl rfl rfl ?_
    refine wk_assign rfl rfl ?_
    refine wk_nil ?_
    refine wk_condF rfl ?_
    refine wk_seq ?_
    refine wk_reg (id := 4) ?_
    refine wk_cmp rfl rfl rfl rfl ?_
    refine wk_assign rfl rfl ?_
    refine wk_nil ?_
    refine wk_condT rfl ?_
    refine wk_seq ?_
    refine wk_reg (id := 5) ?_
    refine wk_move rfl rfl ?_
    refine wk_move rfl rfl ?_
    refine wk_and rfl rfl rfl ?_
    refine wk_or rfl rfl rfl ?_
    refine wk_conv rfl Tryd.underlying64 Tryd.underlying5 rfl ?_
    refine wk_move rfl rfl ?_
    refine wk_shr rfl rfl (by decide) rfl ?_
    refine wk_and rfl rfl rfl ?_
    refine wk_or rfl rfl rfl ?_
    refine wk_conv rfl Tryd.underlying64 Tryd.underlying5 rfl ?_
    refine wk_move rfl rfl ?_
    refine wk_shr rfl rfl (by decide) rfl ?_
    refine wk_and rfl rfl rfl ?_
    refine wk_or rfl rfl rfl ?_
    refine wk_conv rfl Tryd.underlying64 Tryd.underlying5 rfl ?_
    refine wk_move rfl rfl ?_
    refine wk_shr rfl rfl (by decide) rfl ?_
    refine wk_conv rfl Tryd.underlying64 Tryd.underlying5 rfl ?_
    refine wk_bs4 byteT rfl rfl rfl rfl rfl ?_
    refine wk_appendG rfl rfl (app_newG byteT hown hb (xs := uv n) hs ?_ (by rw [hu]; rfl) rfl) rfl ?_
    · rw [hu]
      exact cons_eq (grp n hn) (cons_eq ((by rw [e7]; exact grp _ (by omega))) (cons_eq ((by rw [e14]; exact grp _ (by omega))) (cons_eq ((by rw [e21]; exact lastg5 _ (by omega))) (rfl))))
    · intro d' w' ho hg
      refine wk_assign rfl rfl ?_
      refine wk_nil ?_
      exact wk_ret (rb r0) rfl rfl ⟨d', rfl, ho, grown_new hg⟩
  · have hl : uvl n = 5 := by unfold uvl; rw [if_neg (by omega), if_neg (by omega), if_neg (by omega), if_neg (by omega)]
    rw [hl]
    refine wk_nil ?_
    refine wk_block ?_
    refine wk_seq ?_
    refine wk_reg (id := 2) ?_
    refine wk_cmp rfl rfl rfl rfl ?_
    refine wk_assign rfl rfl ?_
    refine wk_nil ?_
    refine wk_condT rfl ?_
    refine wk_seq ?_
    refine wk_reg (id := 3) ?_
    refine wk_move rfl rfl ?_
    refine wk_move rfl rfl ?_
    refine wk_and rfl rfl rfl ?_
    refine wk_or rfl rfl rfl ?_
    refine wk_conv rfl Tryd.underlying64 Tryd.underlying5 rfl ?_
    refine wk_move rfl rfl ?_
    refine wk_shr rfl rfl (by decide) rfl ?_
    refine wk_and rfl rfl rfl ?_
    refine wk_or rfl rfl rfl ?_
    refine wk_conv rfl Tryd.underlying64 Tryd.underlying5 rfl ?_
    refine wk_move rfl rfl ?_
    refine wk_shr rfl rfl (by decide) rfl ?_
    refine wk_and rfl rfl rfl ?_
    refine wk_or rfl rfl rfl ?_
    refine wk_conv rfl Tryd.underlying64 Tryd.underlying5 rfl ?_
    refine wk_move rfl rfl ?_
    refine wk_shr rfl rfl (by decide) rfl ?_
    refine wk_and rfl rfl rfl ?_
    refine wk_or rfl rfl rfl ?_
    refine wk_conv rfl Tryd.underlying64 Tryd.underlying5 rfl ?_
    refine wk_move rfl rfl ?_
    refine wk_shr rfl rfl (by decide) rfl ?_
    refine wk_conv rfl Tryd.underlying64 Tryd.underlying5 rfl ?_
    refine wk_bs5 byteT rfl rfl rfl rfl rfl rfl ?_
    refine wk_appendG rfl rfl (app_newG byteT hown hb (xs := uv n) hs ?_ (by rw [hu]; rfl) rfl) rfl ?_
    · rw [hu]
      exact cons_eq (grp n hn) (cons_eq ((by rw [e7]; exact grp _ (by omega))) (cons_eq ((by rw [e14]; exact grp _ (by omega))) (cons_eq ((by rw [e21]; exact grp _ (by omega))) (cons_eq ((by rw [e28]; exact lastg5 _ (by omega))) (rfl)))))
    · intro d' w' ho hg
      refine wk_assign rfl rfl ?_
      refine wk_nil ?_
      exact wk_ret (rb r0) rfl rfl ⟨d', rfl, ho, grown_new hg⟩
end Go.Proofs.YtbcfmhgcpijfnaaDoor
