/-
  Tags, where there are none: how many, and what is appended of them.
-/
import Derived.Test.YtbcfmhgcpijfnaaDoorKbin
set_option linter.unusedVariables false
set_option linter.unusedSimpArgs false
namespace Go.Proofs.YtbcfmhgcpijfnaaDoor
open Go Go.RowKit Go.Proofs.Eng
set_option maxRecDepth 20000

theorem c_TagsLen : TLContract Tryd.prog 23 := by
  intro w X b o v l hc hr hl
  refine calls_wk (args := [.pointer (some ⟨b, o, none⟩)]) Tryd.func23 rfl rfl ?_
  refine wk_seq ?_
  refine wk_reg (id := 0) ?_
  refine wk_assign rfl rfl ?_
  refine wk_nil ?_
  refine wk_seq ?_
  refine wk_reg (id := 1) ?_
  refine wk_move rfl rfl ?_
  refine wk_nilCheck rfl rfl ?_
  refine wk_field (f := 0) (i := Tryd.t40) rfl Tryd.underlying42 rfl (by kernel_rfl) (by decide) rfl ?_
  refine wk_load (v := v) rfl Tryd.underlying40 rfl hc rfl ?_
  refine wk_maplen (X := X) (tl := l) rfl Tryd.underlying40 hr rfl ?_
  refine wk_assign rfl rfl ?_
  refine wk_nil ?_
  exact wk_ret r0 rfl rfl ⟨rfl, rfl⟩
theorem Each_none (w : World) (X : Nat → Prop) (b o : Nat) (v f : Value) (hc : w.cell? ⟨b, o, none⟩ = some v) (hr : Rep w X v (.tags [])) :
    Calls Tryd.prog 56 #[.pointer (some ⟨b, o, none⟩), f] w fun e w' => e = .returned (.tuple #[]) ∧ w' = w := by
  refine calls_wk (args := [.pointer (some ⟨b, o, none⟩), f]) Tryd.func56 rfl rfl ?_
  refine wk_seq ?_
  refine wk_seq ?_
  refine wk_reg (id := 0) ?_
  refine wk_move rfl rfl ?_
  refine wk_nilCheck rfl rfl ?_
  refine wk_field (f := 0) (i := Tryd.t40) rfl Tryd.underlying42 rfl (by kernel_rfl) (by decide) rfl ?_
  refine wk_load (v := v) rfl Tryd.underlying40 rfl hc rfl ?_
  refine wk_maplen (X := X) (tl := []) rfl Tryd.underlying40 hr rfl ?_
  refine wk_cmp rfl rfl rfl rfl ?_
  refine wk_nil ?_
  refine wk_condT rfl ?_
  exact wk_ret0 r0 rfl ⟨rfl, rfl⟩

theorem c_AppendEach0 : TEContract Tryd.prog 5 24 true := by
  intro w base b o d v bs l hown hb hlt hc hr hconf hs
  obtain ⟨l', hl', _, _, _, h0⟩ := hconf.tags_inv
  cases hl'
  obtain rfl := h0 rfl
  refine calls_wk (args := [.pointer (some ⟨b, o, none⟩), d]) Tryd.func24 rfl rfl ?_
  refine wk_seq ?_
  refine wk_reg (id := 0) ?_
  refine wk_box rfl rfl ?_
  refine wk_assign rfl rfl ?_
  refine wk_nil ?_
  refine wk_seq ?_
  refine wk_reg (id := 1) ?_
  refine wk_move rfl rfl ?_
  have hone : d.cells = #[d] := by rcases hown.2 with ⟨rfl, _⟩ | ⟨g, cap, cur, rfl, _⟩ <;> rfl
  rw [hone]
  have hbel : Below w.heap.size w (w.alloc (.cells #[d] 22)) := (Below.refl _ _).alloc (Nat.le_refl _) _
  refine wk_makeFunc (vs := []) (us := [.pointer (some ⟨w.heap.size, 0, none⟩)]) rfl rfl rfl ?_
  refine wk_call Tryd.call56 (vs := [.pointer (some ⟨b, o, none⟩), .func (.func 57) #[] #[.pointer (some ⟨w.heap.size, 0, none⟩)]]) rfl rfl
    ((Each_none _ (fun x => base ≤ x) b o v _ ((hbel.cell (p := ⟨b, o, none⟩) (by show b < w.heap.size; omega)).trans hc) (hr.keep (Keeps.of_below (hbel.mono hb)))).mono ?_)
  rintro e w' ⟨rfl, rfl⟩
  refine ⟨_, rfl, ?_⟩
  refine wk_nil ?_
  refine wk_seq ?_
  refine wk_reg (id := 2) ?_
  first
    | refine wk_load (v := d) rfl Tryd.underlying22 rfl (by rw [cell_of_row _ w.heap.size 0 #[d] 22 (0, 0) (heap_alloc_new w _)]; rfl) rfl ?_
    | skip
  refine wk_assign rfl rfl ?_
  refine wk_nil ?_
  refine wk_ret r0 rfl rfl ⟨d, rfl, ?_, hbel.mono hb⟩
  simpa using hown.below hbel
end Go.Proofs.YtbcfmhgcpijfnaaDoor
