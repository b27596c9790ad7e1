/-
  Tags are written by rising numbers: what ranges over them.
-/
import Derived.Test.YtbcfmhgcpijfnaaDoorRK4
import Derived.Test.YtbcfmhgcpijfnaaDoorKbinG
set_option linter.unusedVariables false
set_option linter.unusedSimpArgs false
namespace Go.Proofs.YtbcfmhgcpijfnaaDoor
open Go Go.RowKit Go.Proofs.Eng Go.MapKept
open Go.ChangeMaps (setBlock)
set_option maxRecDepth 20000
set_option maxHeartbeats 4000000

theorem own_cells {w : World} {base e : Nat} {d : Value} {bs : List UInt8} (h : Own w base e d bs) : d.cells = #[d] ∧ d.oneCell' = true := by
  rcases h.2 with ⟨rfl, _⟩ | ⟨g, cap, cur, rfl, _⟩ <;> exact ⟨rfl, rfl⟩
theorem own_row {w w' : World} {base e : Nat} {d : Value} {bs : List UInt8} (h : Own w base e d bs) {row : Option Nat} (hg : w.grownBy w' row) (hne : d.ownBlock = none ∨ d.ownBlock ≠ row) : Own w' base e d bs := World.ownsRow.kept h hg hne
theorem own_ne {w : World} {base : Nat} {d : Value} {bs : List UInt8} (h : Own w base 5 d bs) {b : Nat} {c : Array Value} {t : TypeId} {z : Nat × Nat} (hb : w.heap[b]? = some (.cells c t z)) (ht : t ≠ 5) : some b ≠ d.ownBlock := by
  rcases h.2 with ⟨rfl, _⟩ | ⟨g, cap, cur, rfl, _, hg, _⟩
  · simp [Value.ownBlock]
  · intro e
    simp only [Value.ownBlock, Option.some.injEq] at e
    subst e
    rw [hg] at hb
    simp only [Option.some.injEq, Obj.cells.injEq] at hb
    exact ht hb.2.1.symm
/-- What stands in the cell that the function value captured: what has been appended so far. -/
def CellOwn (w : World) (base cb : Nat) (bs : List UInt8) : Prop := base ≤ cb ∧ ∃ d, w.heap[cb]? = some (.cells #[d] 22 (0, 0)) ∧ Own w base 5 d bs
theorem CellOwn.below {w w' : World} {base cb : Nat} {bs : List UInt8} (h : CellOwn w base cb bs) (hb : Below w.heap.size w w') : CellOwn w' base cb bs := by
  obtain ⟨h0, d, h1, h2⟩ := h
  exact ⟨h0, d, (hb.block cb (lt_of_some h1)).trans h1, h2.below hb⟩
/-- Rows that hold neither bytes nor slices of bytes stay. -/
def KeptT (w w' : World) : Prop := ∀ (k : Nat) (c : Array Value) (t : TypeId) (z : Nat × Nat), t ≠ 5 → t ≠ 22 → w.heap[k]? = some (.cells c t z) → w'.heap[k]? = some (.cells c t z)
theorem KeptT.trans {w w1 w2 : World} (h : KeptT w w1) (h' : KeptT w1 w2) : KeptT w w2 := fun k c t z h1 h2 hk => h' k c t z h1 h2 (h k c t z h1 h2 hk)
theorem KeptT.grown {w w' : World} {base : Nat} {d : Value} {bs : List UInt8} (hown : Own w base 5 d bs) (hg : w.grownBy w' d.ownBlock) : KeptT w w' := fun k c t z h1 _ hk => (hg.block k (lt_of_some hk) (own_ne hown hk h1)).trans hk
theorem KeptT.below {w w' : World} (h : Below w.heap.size w w') : KeptT w w' := fun k c t z _ _ hk => (h.block k (lt_of_some hk)).trans hk
/-- One step: what is appended is laid into the cell. -/
theorem cell_step {w w1 : World} {base cb : Nat} {d d' : Value} {bs xs : List UInt8} (h0 : base ≤ cb) (hbs : base ≤ w.heap.size) (h1 : w.heap[cb]? = some (.cells #[d] 22 (0, 0))) (hown : Own w base 5 d bs) (hown' : Own w1 base 5 d' (bs ++ xs)) (hg : w.grownBy w1 d.ownBlock) :
    w1.heap[cb]? = some (.cells #[d] 22 (0, 0)) ∧ CellOwn (w1.setRow cb #[d']) base cb (bs ++ xs) ∧ Below base w (w1.setRow cb #[d']) ∧ KeptT w (w1.setRow cb #[d']) := by
  have hne := own_ne hown h1 (by decide)
  have h1' := (hg.block cb (lt_of_some h1) hne).trans h1
  have hne' := own_ne hown' h1' (by decide)
  refine ⟨h1', ⟨h0, d', setRow_heap _ _ _ _ _ _ h1', ?_⟩, ?_, ?_⟩
  · refine own_row hown' (row := some cb) ⟨rfl, rfl, rfl, by simp [World.setRow], fun k _ hk => setRow_other _ _ _ _ (fun e => hk (by rw [e]))⟩ (.inr (Ne.symm hne'))
  · exact below_row (below_of_grown hown hbs hg) h0 _
  · intro k c t z ht1 ht2 hk
    have hne2 := own_ne hown hk ht1
    have hkc : k ≠ cb := fun e => by
      subst e
      rw [hk] at h1
      simp only [Option.some.injEq, Obj.cells.injEq] at h1
      exact absurd h1.2.1 ht2
    exact (setRow_other _ _ _ _ hkc).trans ((hg.block k (lt_of_some hk) hne2).trans hk)
theorem c_EachFn (w : World) (base cb : Nat) (vv : Value) (bs : List UInt8) (k : Nat) (vb : List UInt8) (hC : CellOwn w base cb bs) (hb : base ≤ w.heap.size) (hk : k < 4294967296) (hv : BytesRep0 w (fun b => base ≤ b) vv vb) (hlim : bs.length + (wtag (k, vb)).length ≤ lim) :
    Calls Tryd.prog 57 #[.int .u32 (k : Int), vv, .pointer (some ⟨cb, 0, none⟩)] w fun e w' => e = .returned (.tuple #[]) ∧ CellOwn w' base cb (bs ++ wtag (k, vb)) ∧ Below base w w' ∧ KeptT w w' := by
  obtain ⟨h0, d, h1, hown⟩ := hC
  have hln : (wtag (k, vb)).length = (uv k).length + ((uv (vb.length % 4294967296)).length + vb.length) := by simp [wtag]
  have hvf : ∃ A c, vv = .slice A vb.length c := by
    rcases hv with ⟨⟨A0, rfl⟩, rfl⟩ | ⟨_, _, n, c, rfl, _, _, hl, _⟩
    · exact ⟨A0, 0, rfl⟩
    · subst hl; exact ⟨_, c, rfl⟩
  obtain ⟨A, c, hvv⟩ := hvf
  refine calls_wk (args := [.int .u32 (k : Int), vv, .pointer (some ⟨cb, 0, none⟩)]) Tryd.func57 rfl rfl ?_
  refine wk_seq ?_
  refine wk_reg (id := 0) ?_
  refine wk_load rfl Tryd.underlying22 rfl (by exact cell_blk (by with_reducible assumption) rfl) rfl ?_
  refine wk_move rfl rfl ?_
  refine wk_call Tryd.call22 (vs := [d, .int .u32 (k : Int)]) rfl rfl ((AppendUvarint_grow w base d bs k hown hb hk (by omega)).mono ?_)
  rintro e w1 ⟨d1, rfl, ho1, hg1⟩
  refine ⟨_, rfl, ?_⟩
  obtain ⟨g1, ⟨_, _, f1, hown1⟩, b1, q1⟩ := cell_step h0 hb h1 hown ho1 hg1
  have hf1 := setRow_heap _ _ _ #[d1] _ _ g1
  rw [hf1] at f1
  cases f1
  skip
  refine wk_store1 (i := Tryd.t22) rfl rfl g1 (by kernel_rfl) rfl (own_cells ho1).2 (own_cells ho1).1 (show 0 < 1 by decide) ?_
  have hvv1 : BytesRep0 (w1.setRow cb #[d1]) (fun b => base ≤ b) vv vb := hv.keep (Keeps.of_below b1)
  have hb1 : base ≤ (w1.setRow cb #[d1]).heap.size := Nat.le_trans hb b1.size
  have hcv : IntKind.u32.wrap ((vb.length : Nat) : Int) = ((vb.length % 4294967296 : Nat) : Int) := by
    simp [IntKind.wrap, IntKind.bits, IntKind.signed]
  subst hvv
  refine wk_nil ?_
  refine wk_seq ?_
  refine wk_reg (id := 1) ?_
  refine wk_load (v := d1) rfl Tryd.underlying22 rfl (cell_blk hf1 rfl) rfl ?_
  refine wk_move rfl rfl ?_
  refine wk_slen rfl Tryd.underlying22 rfl ?_
  refine wk_convV rfl Tryd.underlying3 Tryd.underlying64 (by with_reducible assumption) rfl ?_
  refine wk_call Tryd.call22 (vs := [d1, .int .u32 ((vb.length % 4294967296 : Nat) : Int)]) rfl rfl ((AppendUvarint_grow (w1.setRow cb #[d1]) base d1 (bs ++ uv k) (vb.length % 4294967296) hown1 hb1 (Nat.mod_lt _ (by decide)) (by rw [List.length_append]; omega)).mono ?_)
  rintro e w2 ⟨d2, rfl, ho2, hg2⟩
  refine ⟨_, rfl, ?_⟩
  obtain ⟨g2, ⟨_, _, f2, hown2⟩, b2, q2⟩ := cell_step h0 hb1 hf1 hown1 ho2 hg2
  have hf2 := setRow_heap _ _ _ #[d2] _ _ g2
  rw [hf2] at f2
  cases f2
  skip
  refine wk_store1 (i := Tryd.t22) rfl rfl g2 (by kernel_rfl) rfl (own_cells ho2).2 (own_cells ho2).1 (show 0 < 1 by decide) ?_
  have hvv2 := hvv1.keep (Keeps.of_below b2)
  have hb2 : base ≤ (w2.setRow cb #[d2]).heap.size := Nat.le_trans hb1 b2.size
  refine wk_nil ?_
  refine wk_reg (id := 2) ?_
  refine wk_load (v := d2) rfl Tryd.underlying22 rfl (cell_blk hf2 rfl) rfl ?_
  refine wk_move rfl rfl ?_
  refine wk_appendG (row := d2.ownBlock) rfl rfl (fun ρ o ho hx hy => run_append_rep byteT ho hx hy hvv2 hown2 hb2 (by simp only [List.length_append]; omega)) rfl ?_
  intro d3 w3 ho3 hg3
  obtain ⟨g3, hC3, b3, q3⟩ := cell_step h0 hb2 hf2 hown2 ho3 hg3
  skip
  refine wk_store1 (i := Tryd.t22) rfl rfl g3 (by kernel_rfl) rfl (own_cells ho3).2 (own_cells ho3).1 (show 0 < 1 by decide) ?_
  refine wk_nil ?_
  refine wk_end0 (fun _ _ h => h) rfl ⟨rfl, ?_, (b1.trans b2).trans b3, (q1.trans q2).trans q3⟩
  rw [show bs ++ wtag (k, vb) = bs ++ uv k ++ uv (vb.length % 4294967296) ++ vb by simp [wtag]]
  exact hC3
end Go.Proofs.YtbcfmhgcpijfnaaDoor
