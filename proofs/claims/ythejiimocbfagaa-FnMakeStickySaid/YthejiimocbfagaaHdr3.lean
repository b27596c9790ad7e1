/-
  A header, written by the reference.
-/
import Derived.Test.YthejiimocbfagaaHdr2
set_option linter.unusedVariables false
set_option linter.unusedSimpArgs false
namespace Go.Proofs.Ythejiimocbfagaa
open Go Go.RowKit Go.Proofs.Eng
set_option maxRecDepth 20000
set_option maxHeartbeats 4000000

section
variable {P : Program} {Q : Exit → Act → World → Prop} {nT : Nat} {σ : Sv} {k : List TD} {w : World} {ty : TypeId} {ps : String} {af : Array Edge} {d : Nat} {x : Operand} {t : TypeId} {S : World → Prop} {all : List Oper} {i : Nat} {ord : List (Nat × Bool)} {ol : List Oper} {g : Option (Nat × Bool)}
theorem wd_strlen {s : ByteArray} (hg : guardIs σ all g = some true) (hx : evs σ x = some (.string s)) (ht : P.underlying t = some .string) (hd : Nat.blt d nT = true) (h : wkD P Q nT all S ((d, .int .i64 s.size) :: σ) k ord ol w) :
    wkD P Q nT all S σ k ((i, true) :: ord) (⟨some d, .call ⟨.builtin .len, #[x], #[t]⟩, ty, ps, af, g⟩ :: ol) w := wd_val hg (fun _ ha _ _ => run_strlen rfl ht (ha.ev hx)) hd h
end
theorem octets_any (w : World) (X : Nat → Prop) (nl : Bool) (v : Value) (l : List UInt8) (hv : BytesRep0 w X v l) (hl : l.length < 1073741824) :
    Calls Try.prog 22 #[.agg #[.bool nl, v]] w fun e w' => ∃ d, e = .returned d ∧ Own w' w.heap.size 5 d (octB nl l) ∧ Below w.heap.size w w' := by
  obtain ⟨A, c, rfl, _⟩ := hv.form
  have h1 := heap_alloc_new w (.cells #[.bool nl, .slice A l.length c] 32)
  have hb1 := below1 w (.cells #[.bool nl, .slice A l.length c] 32)
  refine calls_wk (args := [.agg #[.bool nl, .slice A l.length c]]) Try.func22 rfl rfl ?_
  refine wk_seq ?_
  refine wk_reg (id := 0) ?_
  refine wk_box rfl rfl ?_
  refine wk_assign rfl rfl ?_
  refine wk_nil ?_
  refine wk_seq ?_
  refine wk_seq ?_
  refine wk_reg (id := 1) ?_
  refine wk_field (f := 0) (i := Try.t4) rfl Try.underlying32 rfl (by kernel_rfl) (by decide) rfl ?_
  refine wk_load rfl Try.underlying4 rfl (by exact cell_new rfl) rfl ?_
  refine wk_nil ?_
  first
    | refine wk_load (v := .bool nl) rfl Try.underlying4 rfl (cell_blk h1 rfl) rfl ?_
    | skip
  skip
  cases nl with
  | true =>
    refine wk_condT rfl ?_
    refine wk_seq ?_
    refine wk_reg (id := 2) ?_
    refine wk_call Try.call21 (vs := [.int .i64 (-1)]) rfl rfl ((Varint_any _ (-1) 1 (.inl ⟨rfl, rfl⟩) (by decide)).mono ?_)
    rintro e w2 ⟨d2, rfl, ho2, hb2⟩
    refine ⟨_, rfl, ?_⟩
    refine wk_assign rfl rfl ?_
    refine wk_nil ?_
    exact wk_ret r0 rfl rfl ⟨d2, rfl, own_mono ho2 hb1.size, hb1.trans (hb2.mono hb1.size)⟩
  | false =>
    refine wk_condF rfl ?_
    refine wk_skip ?_
    refine wk_seq ?_
    refine wk_draw (fun w' => w'.heap[w.heap.size]? = some (.cells #[.bool false, .slice A l.length c] 32 (0, 0))) [(0, true), (1, true), (2, true), (4, true), (5, true), (3, false), (6, false), (7, true)] mixed pq0 (by kernel_rfl) (by kernel_rfl) (by kernel_rfl) (fun w5 h5 _ => by rw [h5]; exact h1) ?_
    intro w3 h3 hb3
    have hM3 : w3.heap[w.heap.size]? = some (.cells #[.bool false, .slice A l.length c] 32 (0, 0)) := by rw [h3]; exact h1
    have hb03 := hb1.trans (hb3.mono hb1.size)
    refine wd_field (f := 1) (ti := Try.t22) rfl rfl Try.underlying32 rfl (by kernel_rfl) (by decide) rfl ?_
    refine wd_load (v := .slice A l.length c) rfl rfl Try.underlying22 rfl (fun w' hS => cell_blk hS rfl) rfl ?_
    refine wd_slen rfl rfl Try.underlying22 rfl ?_
    refine wd_field (f := 1) (ti := Try.t22) rfl rfl Try.underlying32 rfl (by kernel_rfl) (by decide) rfl ?_
    refine wd_load (v := .slice A l.length c) rfl rfl Try.underlying22 rfl (fun w' hS => cell_blk hS rfl) rfl ?_
    refine wd_call rfl Try.call21 (vs := [.int .i64 (l.length : Int)]) rfl rfl ((Varint_any w3 _ _ (Zig.nat hl) (by omega)).mono ?_)
    rintro e w4 ⟨d4, rfl, ho4, hb4⟩
    have hM4 := (hb4.block _ (lt_of_some hM3)).trans hM3
    have hb04 := hb03.trans (hb4.mono hb03.size)
    refine ⟨_, rfl, hM4, ?_⟩
    have ho4' := own_mono ho4 hb03.size
    have hu := uv_length (2 * l.length)
    refine wd_append (R := fun d' w' => Own w' w.heap.size 5 d' (uv (2 * l.length) ++ l) ∧ Below w.heap.size w w') rfl rfl rfl ?_ rfl ?_
    · intro ρ oo hop hx hy
      obtain ⟨d7, w7, h1, h2, h3⟩ := run_append_rep byteT hop hx hy (hv.keep (keeps_below hb04 (Nat.le_refl _))) ho4' hb04.size (by rw [lim_eq]; omega)
      exact ⟨d7, w7, h1, grown_other ho4' h3 hM4 (by decide), h2, hb04.trans (below_of_grown ho4' hb04.size h3)⟩
    rintro d7 w7 ⟨ho7, hb7⟩
    refine wd_assign rfl rfl rfl ?_
    refine wd_done ?_
    skip
    exact wk_ret r0 rfl rfl ⟨d7, rfl, ho7, hb7⟩
theorem header_any (w : World) (X : Nat → Prop) (s : ByteArray) (nl : Bool) (v : Value) (l : List UInt8) (hv : BytesRep0 w X v l) (hl : l.length < 1073741824) (hs : s.size < 1073741824) :
    Calls Try.prog 12 #[.agg #[.string s, .bool nl, v]] w fun e w' => ∃ d, e = .returned d ∧ Own w' w.heap.size 5 d (hdrB s nl l) ∧ Below w.heap.size w w' := by
  have hss : s.data.toList.length = s.size := by rw [Array.length_toList]; rfl
  have h1 := heap_alloc_new w (.cells #[.string s, .bool nl, v] 34)
  have hb1 := below1 w (.cells #[.string s, .bool nl, v] 34)
  have hu := uv_length (2 * s.size)
  have hu2 := uv_length (2 * l.length)
  have hu3 := uv_length 1
  refine calls_wk (args := [.agg #[.string s, .bool nl, v]]) Try.func12 rfl rfl ?_
  refine wk_seq ?_
  refine wk_reg (id := 0) ?_
  refine wk_box rfl rfl ?_
  refine wk_assign rfl rfl ?_
  refine wk_nil ?_
  refine wk_seq ?_
  refine wk_draw (fun w' => w'.heap[w.heap.size]? = some (.cells #[.string s, .bool nl, v] 34 (0, 0))) [(0, true), (1, true), (2, true), (4, true), (5, true), (3, false), (6, false), (7, true)] mixed pq0 (by kernel_rfl) (by kernel_rfl) (by kernel_rfl) (fun w5 h5 _ => by rw [h5]; exact h1) ?_
  intro w3 h3 hb3
  have hM3 : w3.heap[w.heap.size]? = some (.cells #[.string s, .bool nl, v] 34 (0, 0)) := by rw [h3]; exact h1
  have hb03 := hb1.trans (hb3.mono hb1.size)
  refine wd_field (f := 0) (ti := Try.t9) rfl rfl Try.underlying34 rfl (by kernel_rfl) (by decide) rfl ?_
  refine wd_load (v := .string s) rfl rfl Try.underlying9 rfl (fun w' hS => cell_blk hS rfl) rfl ?_
  refine wd_strlen rfl rfl Try.underlying9 rfl ?_
  refine wd_field (f := 0) (ti := Try.t9) rfl rfl Try.underlying34 rfl (by kernel_rfl) (by decide) rfl ?_
  refine wd_load (v := .string s) rfl rfl Try.underlying9 rfl (fun w' hS => cell_blk hS rfl) rfl ?_
  refine wd_call rfl Try.call21 (vs := [.int .i64 (s.size : Int)]) rfl rfl ((Varint_any w3 _ _ (Zig.nat hs) (by omega)).mono ?_)
  rintro e w4 ⟨d4, rfl, ho4, hb4⟩
  have hM4 := (hb4.block _ (lt_of_some hM3)).trans hM3
  have hb04 := hb03.trans (hb4.mono hb03.size)
  refine ⟨_, rfl, hM4, ?_⟩
  have ho4' := own_mono ho4 hb03.size
  refine wd_append (R := fun d' w' => Own w' w.heap.size 5 d' (uv (2 * s.size) ++ s.data.toList) ∧ w'.heap[w.heap.size]? = some (.cells #[.string s, .bool nl, v] 34 (0, 0)) ∧ Below w.heap.size w w') rfl rfl rfl ?_ rfl ?_
  · intro ρ oo hop hx hy
    obtain ⟨d7, w7, h1, h2, h3⟩ := app_strG byteT Try.underlying9 ho4' hb04.size (by rw [hss, lim_eq]; omega) ρ oo hop hx hy
    have hg := grown_other ho4' h3 hM4 (by decide)
    exact ⟨d7, w7, h1, hg, h2, hg, hb04.trans (below_of_grown ho4' hb04.size h3)⟩
  rintro d5 w5 ⟨ho5, hM5, hb05⟩
  refine wd_assign rfl rfl rfl ?_
  refine wd_done ?_
  refine wk_seq ?_
  refine wk_reg (id := 2) ?_
  refine wk_move rfl rfl ?_
  refine wk_field (f := 1) (i := Try.t32) rfl Try.underlying34 rfl (by kernel_rfl) (by decide) rfl ?_
  first
    | refine wk_loadA (i := Try.t32) rfl Try.underlying32 rfl (by kernel_rfl) (vs := [.bool nl, v]) rfl (fun j u hj => by
        rw [add_addr]
        refine cell_blk hM5 ?_
        match j, hj with
        | 0, hj => simpa using hj
        | 1, hj => simpa using hj
        | j + 2, hj => simp at hj) rfl ?_
    | skip
  skip
  refine wk_call Try.call22 (vs := [.agg #[.bool nl, v]]) rfl rfl ((octets_any w5 X nl v l (hv.keep (keeps_below hb05 (Nat.le_refl _))) hl).mono ?_)
  rintro e w6 ⟨d6, rfl, ho6, hb6⟩
  refine ⟨_, rfl, ?_⟩
  have hb06 := hb05.trans (hb6.mono hb05.size)
  have ho5' := ho5.below hb6
  have hv6 : BytesRep0 w6 (fun _ => False) d6 (octB nl l) := (OwnC.of_own ho6).bytes (fun _ _ _ h => h)
  have hlo : (octB nl l).length ≤ 10 + l.length := by
    unfold octB
    split
    · omega
    · rw [List.length_append]; omega
  skip
  refine wk_append rfl rfl (app_rep byteT hv6 ho5' hb06.size (by rw [List.length_append, hss, lim_eq]; omega)) rfl ?_
  intro d7 w7 ho7 hb7
  refine wk_assign rfl rfl ?_
  refine wk_nil ?_
  exact wk_ret r0 rfl rfl ⟨d7, rfl, ho7, hb06.trans hb7⟩
end Go.Proofs.Ythejiimocbfagaa
