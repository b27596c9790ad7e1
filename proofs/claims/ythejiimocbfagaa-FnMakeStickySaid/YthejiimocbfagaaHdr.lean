/-
  A header of a record: what the package writes of it, and what the reference does.
-/
import Derived.Test.YthejiimocbfagaaVint
import Derived.Test.YthejiimocbfagaaEngY
set_option linter.unusedVariables false
set_option linter.unusedSimpArgs false
namespace Go.Proofs.Ythejiimocbfagaa
open Go Go.RowKit Go.Proofs.Eng
set_option maxRecDepth 20000
set_option maxHeartbeats 4000000

theorem OctRep.of_own {w : World} {base : Nat} {X : Nat → Prop} {d : Value} {l : List UInt8} (ho : Own w base 5 d l) (hn : d ≠ .slice none 0 0) (hX : ∀ b, b < w.heap.size → base ≤ b → ¬ X b) : OctRep w X d false l := by
  refine ⟨fun h => (by cases h), fun _ => ⟨(OwnC.of_own ho).bytes hX, ?_⟩⟩
  rcases ho.2 with ⟨rfl, h⟩ | ⟨g, cap, cur, rfl, _⟩
  · exact absurd rfl hn
  · exact ⟨_, cap, rfl⟩
theorem OctRep.nil (w : World) (X : Nat → Prop) (l : List UInt8) : OctRep w X (.slice none 0 0) true l := ⟨fun _ => rfl, fun h => by cases h⟩
theorem OctRep.keep {w w' : World} {X : Nat → Prop} {v : Value} {nl : Bool} {l : List UInt8} (h : OctRep w X v nl l) (k : Keeps X w w') : OctRep w' X v nl l := ⟨h.1, fun e => ⟨(h.2 e).1.keep k, (h.2 e).2⟩⟩
/-! ## the thin package -/
theorem own_any (w : World) (X : Nat → Prop) (v : Value) (l : List UInt8) (hv : BytesRep0 w X v l) (hl : l.length ≤ lim) : Calls Try.prog 16 #[v] w fun e w' => ∃ d, e = .returned d ∧ Own w' w.heap.size 5 d l ∧ Below w.heap.size w w' := by
  refine calls_wk (args := [v]) Try.func16 rfl rfl ?_
  refine wk_seq ?_
  refine wk_reg (id := 0) ?_
  refine wk_assign rfl rfl ?_
  refine wk_nil ?_
  refine wk_seq ?_
  refine wk_reg (id := 1) ?_
  refine wk_move rfl rfl ?_
  refine wk_append rfl rfl (app_rep byteT hv (own_nil w w.heap.size _) (Nat.le_refl _) (by simpa using hl)) rfl ?_
  intro d' w' ho hb
  refine wk_assign rfl rfl ?_
  refine wk_nil ?_
  exact wk_ret r0 rfl rfl ⟨d', rfl, by simpa using ho, hb⟩
theorem null_any (w : World) (X : Nat → Prop) (nl : Bool) (v : Value) (l : List UInt8) (hv : BytesRep0 w X v l) (hl : l.length ≤ lim) : Calls Try.prog 19 #[.agg #[.bool nl, v]] w fun e w' => ∃ d, e = .returned d ∧ OctRep w' (fun b => b < w.heap.size) d nl l ∧ Below w.heap.size w w' := by
  have h1 := heap_alloc_new w (.cells #[.bool nl, v] 32)
  have hb1 := below1 w (.cells #[.bool nl, v] 32)
  refine calls_wk (args := [.agg #[.bool nl, v]]) Try.func19 rfl rfl ?_
  refine wk_seq ?_
  refine wk_reg (id := 0) ?_
  refine wk_box rfl rfl ?_
  refine wk_assign rfl rfl ?_
  refine wk_nil ?_
  refine wk_seq ?_
  refine wk_seq ?_
  refine wk_reg (id := 1) ?_
  refine wk_field (f := 0) (i := Try.t4) rfl Try.underlying32 rfl (by kernel_rfl) (by decide) rfl ?_
  refine wk_load rfl Try.underlying4 rfl (by exact cell_new rfl) rfl ?_
  refine wk_nil ?_
  first
    | refine wk_load (v := .bool nl) rfl Try.underlying4 rfl (cell_blk h1 rfl) rfl ?_
    | skip
  skip
  cases nl with
  | true =>
    refine wk_condT rfl ?_
    refine wk_seq ?_
    refine wk_reg (id := 2) ?_
    refine wk_assign rfl rfl ?_
    refine wk_nil ?_
    exact wk_ret r0 rfl rfl ⟨_, rfl, .nil _ _ l, hb1⟩
  | false =>
    have h2 := ((below1 (w.alloc (.cells #[.bool false, v] 32)) (.cells #[] 5)).block _ (lt_of_some h1)).trans h1
    have hb12 := below1 (w.alloc (.cells #[.bool false, v] 32)) (.cells #[] 5)
    have hb2 := hb1.trans (hb12.mono hb1.size)
    have ho2 := own_bs0 (e := 5) (w.alloc (.cells #[.bool false, v] 32))
    refine wk_condF rfl ?_
    refine wk_skip ?_
    refine wk_seq ?_
    refine wk_reg (id := 3) ?_
    refine wk_bs0 byteT rfl ?_
    refine wk_field (f := 1) (i := Try.t22) rfl Try.underlying32 rfl (by kernel_rfl) (by decide) rfl ?_
    refine wk_load rfl Try.underlying22 rfl (by exact cell_new2 rfl) rfl ?_
    first
      | refine wk_load (v := v) rfl Try.underlying22 rfl (cell_blk h2 rfl) rfl ?_
      | skip
    skip
    refine wk_appR rfl rfl (app_repN byteT (hv.keep (keeps_below hb2 (Nat.le_refl _))) ho2 (by intro h; cases h) hb12.size (by simpa using hl)) rfl ?_
    rintro d' w' ⟨ho, hn, hb⟩
    refine wk_assign rfl rfl ?_
    refine wk_nil ?_
    refine wk_ret r0 rfl rfl ⟨d', rfl, OctRep.of_own ho hn (fun b _ h1 h2 => ?_), hb1.trans ((hb12.trans hb).mono hb1.size)⟩
    have := hb1.size
    omega
end Go.Proofs.Ythejiimocbfagaa
