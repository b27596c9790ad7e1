/-
  The reference: what is kept within: its version ahead of all.
-/
import Derived.Test.YtobeonhmomiaaaaDoorSpecV
import Derived.Test.YtobeonhmomiaaaaDoorSpec8
set_option linter.unusedVariables false
set_option linter.unusedSimpArgs false
namespace Go.Proofs.YtobeonhmomiaaaaDoor
open Go Go.RowKit Go.Proofs.Eng
set_option maxRecDepth 20000
set_option maxHeartbeats 4000000

theorem kept_any (d : Nat) (w : World) (X : Nat → Prop) (v : Value) (fs : List Fld) (flex0 : Int) (ver : Int) (vs : List Value) (t : Tree) (hF : FRep w X v fs) (hT : TRep w X vs t) (hfs : fsB d fs = true) (hok : TOk G32 t) (hlen : (be 2 ver ++ sWrite d fs flex0 ver t).length ≤ lim) :
    Calls Tryd.prog 10 #[.agg #[v, .int .i64 flex0], .int .i64 ver, .agg vs.toArray] w fun e w' => ∃ d', e = .returned d' ∧ Own w' w.heap.size 5 d' (be 2 ver ++ sWrite d fs flex0 ver t) ∧ Below w.heap.size w w' := by
  have hT0 := hT
  obtain ⟨N, S, nl, L, U, v1, v2, v3, cells, hN, hS, hL, hU, hr⟩ := hT
  rw [List.length_append, be_length] at hlen
  have hM1 := heap_alloc_new w (.cells #[v, .int .i64 flex0] 31)
  have hT2 := heap_alloc_new (w.alloc (.cells #[v, .int .i64 flex0] 31)) (.cells #[.int .i64 N, v1, .bool nl, v2, v3] 26)
  have hbT := below1 (w.alloc (.cells #[v, .int .i64 flex0] 31)) (.cells #[.int .i64 N, v1, .bool nl, v2, v3] 26)
  have hb1 := below1 w (.cells #[v, .int .i64 flex0] 31)
  have hM2 := (hbT.block _ (lt_of_some hM1)).trans hM1
  have hb2 := hb1.trans (hbT.mono hb1.size)
  refine calls_wk (args := [.agg #[v, .int .i64 flex0], .int .i64 ver, .agg #[.int .i64 N, v1, .bool nl, v2, v3]]) Tryd.func10 rfl rfl ?_
  refine wk_seq ?_
  refine wk_reg (id := 0) ?_
  refine wk_box rfl rfl ?_
  refine wk_box rfl rfl ?_
  refine wk_assign rfl rfl ?_
  refine wk_nil ?_
  refine wk_seq ?_
  refine wk_draw (fun w' => w'.heap[w.heap.size]? = some (.cells #[v, .int .i64 flex0] 31 (0, 0)) ∧ w'.heap[(w.alloc (.cells #[v, .int .i64 flex0] 31)).heap.size]? = some (.cells #[.int .i64 N, v1, .bool nl, v2, v3] 26 (0, 0)))
    [(0, true), (2, true), (3, true), (4, true), (1, false), (5, false), (6, false), (7, true)] mixed pq0 (by kernel_rfl) (by kernel_rfl) (by kernel_rfl) (fun w5 h5 _ => by rw [h5]; exact ⟨hM2, hT2⟩) ?_
  intro w3 h3 hb3
  have hM3 : w3.heap[w.heap.size]? = some (.cells #[v, .int .i64 flex0] 31 (0, 0)) := by rw [h3]; exact hM2
  have hT3 : w3.heap[(w.alloc (.cells #[v, .int .i64 flex0] 31)).heap.size]? = some (.cells #[.int .i64 N, v1, .bool nl, v2, v3] 26 (0, 0)) := by rw [h3]; exact hT2
  have hb03 := hb2.trans (hb3.mono hb2.size)
  refine wd_move rfl rfl rfl ?_
  refine wd_loadA (ti := Tryd.t31) rfl rfl Tryd.underlying31 rfl (by kernel_rfl) (vs := [v, .int .i64 flex0]) rfl (fun w' hS => cells_blk hS.1) rfl ?_
  refine wd_move rfl rfl rfl ?_
  refine wd_loadA (ti := Tryd.t26) rfl rfl Tryd.underlying26 rfl (by kernel_rfl) (vs := [.int .i64 N, v1, .bool nl, v2, v3]) rfl (fun w' hS => cells_blk hS.2) rfl ?_
  refine wd_call rfl Tryd.call28 (vs := [.int .i64 ver, .int .i64 ((2 : Nat) : Int)]) rfl rfl ((Fixed_any w3 ver 2 (by decide)).mono ?_)
  rintro e w4 ⟨d4, rfl, ho4, hb4⟩
  have hM4 := (hb4.block _ (lt_of_some hM3)).trans hM3
  have hT4 := (hb4.block _ (lt_of_some hT3)).trans hT3
  have hb04 := hb03.trans (hb4.mono hb03.size)
  refine ⟨_, rfl, ⟨hM4, hT4⟩, ?_⟩
  refine wd_call rfl Tryd.call18 (vs := [.agg #[v, .int .i64 flex0], .int .i64 ver, .agg #[.int .i64 N, v1, .bool nl, v2, v3]]) rfl rfl
    ((write_any (fun t h => by cases h) unknown_all d w4 X v fs flex0 ver [.int .i64 N, v1, .bool nl, v2, v3] (.mk N S nl L U) (hF.keep (keeps_below hb04 (Nat.le_refl _))) (hT0.keep (keeps_below hb04 (Nat.le_refl _))) hfs hok (by omega)).mono ?_)
  rintro e w5 ⟨d5, rfl, ho5, hb5⟩
  have hM5 := (hb5.block _ (lt_of_some hM4)).trans hM4
  have hT5 := (hb5.block _ (lt_of_some hT4)).trans hT4
  have hb05 := hb04.trans (hb5.mono hb04.size)
  refine ⟨_, rfl, ⟨hM5, hT5⟩, ?_⟩
  have ho4' : Own w5 w.heap.size 5 d4 (be 2 ver) := (own_mono ho4 hb03.size).below hb5
  have hv5 : BytesRep0 w5 (fun _ => False) d5 (sWrite d fs flex0 ver (.mk N S nl L U)) := (OwnC.of_own ho5).bytes (fun _ _ _ h => h)
  refine wd_append (R := fun d' w' => Own w' w.heap.size 5 d' (be 2 ver ++ sWrite d fs flex0 ver (.mk N S nl L U)) ∧ Below w.heap.size w w') rfl rfl rfl ?_ rfl ?_
  · intro ρ oo hop hx hy
    obtain ⟨d7, w7, h1, h2, h3⟩ := run_append_rep byteT hop hx hy hv5 ho4' hb05.size (by rw [be_length]; omega)
    exact ⟨d7, w7, h1, ⟨grown_other ho4' h3 hM5 (by decide), grown_other ho4' h3 hT5 (by decide)⟩, h2, hb05.trans (below_of_grown ho4' hb05.size h3)⟩
  rintro d7 w7 ⟨ho7, hb7⟩
  refine wd_assign rfl rfl rfl ?_
  refine wd_done ?_
  skip
  exact wk_ret r0 rfl rfl ⟨d7, rfl, ho7, hb7⟩
end Go.Proofs.YtobeonhmomiaaaaDoor
