/-
  The thin package makes a header.
-/
import Derived.Test.YthejiimocbfagaaHdr3
set_option linter.unusedVariables false
set_option linter.unusedSimpArgs false
namespace Go.Proofs.Ythejiimocbfagaa
open Go Go.RowKit Go.Proofs.Eng
set_option maxRecDepth 20000
set_option maxHeartbeats 4000000

theorem make_any (w : World) (X : Nat → Prop) (dv : Value) (dl : List UInt8) (s : ByteArray) (nl : Bool) (v : Value) (l : List UInt8) (hd : BytesRep0 w X dv dl) (hv : BytesRep0 w X v l) (hl : l.length < 1073741824) (hs : s.size < 1073741824) (hdl : dl.length < 1073741824) :
    Calls Try.prog 11 #[dv, .agg #[.string s, .bool nl, v]] w fun e w' => ∃ d, e = .returned d ∧ Own w' w.heap.size 5 d (dl ++ hdrB s nl l) ∧ Below w.heap.size w w' := by
  have hss : s.data.toList.length = s.size := by rw [Array.length_toList]; rfl
  have h1 := heap_alloc_new w (.cells #[.string s, .bool nl, v] 34)
  have hb1 := below1 w (.cells #[.string s, .bool nl, v] 34)
  have hu := uv_length (2 * s.size)
  have hu2 := uv_length (2 * l.length)
  have hu3 := uv_length 1
  have hlo : (octB nl l).length ≤ 10 + l.length := by
    unfold octB
    split
    · omega
    · rw [List.length_append]; omega
  have hlen : dl.length + (hdrB s nl l).length ≤ lim := by rw [hdrB, List.length_append, List.length_append, hss, lim_eq]; omega
  refine calls_wk (args := [dv, .agg #[.string s, .bool nl, v]]) Try.func11 rfl rfl ?_
  refine wk_seq ?_
  refine wk_reg (id := 0) ?_
  refine wk_box rfl rfl ?_
  refine wk_assign rfl rfl ?_
  refine wk_nil ?_
  refine wk_seq ?_
  refine wk_drawG (n := 11) (fun w' => w'.heap[w.heap.size]? = some (.cells #[.string s, .bool nl, v] 34 (0, 0))) mixed pq0 (by kernel_rfl) (fun w5 h5 _ => by rw [h5]; exact h1) ?_
  intro w3 h3 hb3
  have hM3 : w3.heap[w.heap.size]? = some (.cells #[.string s, .bool nl, v] 34 (0, 0)) := by rw [h3]; exact h1
  have hb03 := hb1.trans (hb3.mono hb1.size)
  have cells2 : ∀ (w' : World) (hS : w'.heap[w.heap.size]? = some (.cells #[.string s, .bool nl, v] 34 (0, 0))) (j : Nat) (u : Value), [Value.bool nl, v][j]? = some u → w'.cell? ((⟨w.heap.size, 0 + 1, none⟩ : Addr).add j) = some u := by
    intro w' hS j u hj
    rw [add_addr]
    refine cell_blk hS ?_
    match j, hj with
    | 0, hj => simpa using hj
    | 1, hj => simpa using hj
    | j + 2, hj => simp at hj
  refine wg_take 0 rfl (by kernel_rfl) (by kernel_rfl) (by kernel_rfl) rfl (v := .pointer (some ⟨w.heap.size, 0 + 0, none⟩)) (fun _ ha _ _ => by rw [run_fieldAddr _ _ rfl (ha.ev rfl) Try.underlying34 rfl (show Try.prog.info? 9 = some Try.t9 by kernel_rfl) (by decide), add_addr]; rfl) rfl ?_
  refine wg_take 1 rfl (by kernel_rfl) (by kernel_rfl) (by kernel_rfl) rfl (v := .string s) (fun _ ha _ hS => run_load1 _ _ rfl (ha.ev rfl) Try.underlying9 rfl (cell_blk hS rfl)) rfl ?_
  refine wg_take 2 rfl (by kernel_rfl) (by kernel_rfl) (by kernel_rfl) rfl (v := .pointer (some ⟨w.heap.size, 0 + 1, none⟩)) (fun _ ha _ _ => by rw [run_fieldAddr _ _ rfl (ha.ev rfl) Try.underlying34 rfl (show Try.prog.info? 32 = some Try.t32 by kernel_rfl) (by decide), add_addr]; rfl) rfl ?_
  refine wg_take 3 rfl (by kernel_rfl) (by kernel_rfl) (by kernel_rfl) rfl (v := .agg #[.bool nl, v]) (fun _ ha w' hS => run_load_agg (vs := [.bool nl, v]) rfl (ha.ev rfl) Try.underlying32 rfl (show Try.prog.info? 32 = some Try.t32 by kernel_rfl) rfl (cells2 w' hS)) rfl ?_
  refine wg_take 7 rfl (by kernel_rfl) (by kernel_rfl) (by kernel_rfl) rfl (v := dv) (fun _ ha _ _ => by rw [run_move _ _ rfl, ha.ev rfl]) rfl ?_
  refine wg_one (i := 4) (by kernel_rfl) ?_
  refine wgo_call rfl rfl Try.call19 (vs := [.agg #[.bool nl, v]]) rfl rfl ((null_any w3 X nl v l (hv.keep (keeps_below hb03 (Nat.le_refl _))) (by rw [lim_eq]; omega)).mono ?_)
  rintro e w4 ⟨d4, rfl, ho4, hb4⟩
  have hM4 := (hb4.block _ (lt_of_some hM3)).trans hM3
  have hb04 := hb03.trans (hb4.mono hb03.size)
  obtain ⟨A4, n4, c4, rfl⟩ : ∃ A n c, d4 = .slice A n c := by
    cases nl with
    | true => exact ⟨_, _, _, ho4.1 rfl⟩
    | false => obtain ⟨_, a, c, h⟩ := ho4.2 rfl; exact ⟨_, _, _, h⟩
  refine ⟨_, rfl, hM4, ?_⟩
  refine wg_take 5 rfl (by kernel_rfl) (by kernel_rfl) (by kernel_rfl) rfl (v := .agg #[.string s, .slice A4 n4 c4]) (fun _ ha w' _ => by
    have h2 := run_build (P := Try.prog) w' 56 #[(0, .string s), (1, .slice A4 n4 c4)] #[.string s, .slice A4 n4 c4] (by kernel_rfl)
    simp only [execOp, List.map_toArray, List.map_cons, List.map_nil, ha.ev (show evs _ (.tmp 6) = some (.string s) from rfl), ha.ev (show evs _ (.tmp 9) = some (.slice A4 n4 c4) from rfl)]
    simp [h2]) rfl ?_
  have hsz4 := hb04.size
  have oct : ∀ (w' : World) (base : Nat), Below w4.heap.size w4 w' → w4.heap.size ≤ base → OctRep w' (fun q => base ≤ q) (.slice A4 n4 c4) nl l := by
    intro w' base hb hB
    refine ⟨ho4.1, fun h => ⟨?_, (ho4.2 h).2⟩⟩
    exact ((ho4.2 h).1.mono (Y := fun q => w4.heap.size ≤ q) (fun b hb h => by have h : w4.heap.size ≤ b := h; omega)).keep (keeps_below hb (Nat.le_refl _)) |>.mono (fun b hb' h => Nat.le_trans hB h)
  refine wg_two (i := 6) (j := 8) (by kernel_rfl) ?_ ?_
  · have hblk5 := heap_alloc_new w4 (.cells #[.string s, .slice A4 n4 c4] 56)
    have hb5 := below1 w4 (.cells #[.string s, .slice A4 n4 c4] 56)
    have hM5 := (hb5.block _ (lt_of_some hM4)).trans hM4
    have hb05 := hb04.trans (hb5.mono hsz4)
    refine wgo_val (v := .pointer (some ⟨w4.heap.size, 0, none⟩)) (w' := w4.alloc (.cells #[.string s, .slice A4 n4 c4] 56)) rfl rfl (fun _ ha => by rw [run_box rfl, ha.ev rfl]; rfl) rfl hM5 ?_
    refine wg_one (i := 8) (by kernel_rfl) ?_
    refine wgo_call rfl rfl Try.call16 (vs := [dv]) rfl rfl ((own_any (w4.alloc (.cells #[.string s, .slice A4 n4 c4] 56)) X dv dl (hd.keep (keeps_below hb05 (Nat.le_refl _))) (by rw [lim_eq]; omega)).mono ?_)
    rintro e w6 ⟨d6, rfl, ho6, hb6⟩
    have hM6 := (hb6.block _ (lt_of_some hM5)).trans hM5
    have hblk6 := (hb6.block _ (lt_of_some hblk5)).trans hblk5
    have hb06 := hb05.trans (hb6.mono hb05.size)
    refine ⟨_, rfl, hM6, ?_⟩
    refine wg_one (i := 9) (by kernel_rfl) ?_
    refine wgo_call rfl rfl Try.call20 (vs := [.pointer (some ⟨w4.heap.size, 0, none⟩), d6]) rfl rfl
      ((hdr_append w6 (w4.alloc (.cells #[.string s, .slice A4 n4 c4] 56)).heap.size w4.heap.size d6 (.slice A4 n4 c4) dl s nl l hblk6 (oct w6 _ (hb5.trans (hb6.mono hb5.size)) hb5.size) ho6
        (fun h => by have h1 := (OwnC.of_own ho6).2 _ h; have h2 := lt_of_some hblk5; omega) hb6.size hs hl hlen).mono ?_)
    rintro e w7 ⟨d7, rfl, ho7, hb7⟩
    refine ⟨_, rfl, (hb7.block _ (lt_of_some hM5)).trans hM6, ?_⟩
    refine wg_take 10 rfl (by kernel_rfl) (by kernel_rfl) (by kernel_rfl) rfl (v := d7) (fun _ ha _ _ => by rw [run_assign _ _ rfl, ha.ev rfl]) rfl ?_
    refine wg_done (by kernel_rfl) ?_
    skip
    exact wk_ret r0 rfl rfl ⟨d7, rfl, own_mono ho7 hb05.size, hb06.trans (hb7.mono hb05.size)⟩
  · refine wgo_call rfl rfl Try.call16 (vs := [dv]) rfl rfl ((own_any w4 X dv dl (hd.keep (keeps_below hb04 (Nat.le_refl _))) (by rw [lim_eq]; omega)).mono ?_)
    rintro e w5 ⟨d5, rfl, ho5, hb5⟩
    have hM5 := (hb5.block _ (lt_of_some hM4)).trans hM4
    have hb05 := hb04.trans (hb5.mono hsz4)
    refine ⟨_, rfl, hM5, ?_⟩
    refine wg_one (i := 6) (by kernel_rfl) ?_
    have hblk6 := heap_alloc_new w5 (.cells #[.string s, .slice A4 n4 c4] 56)
    have hb6 := below1 w5 (.cells #[.string s, .slice A4 n4 c4] 56)
    have hM6 := (hb6.block _ (lt_of_some hM5)).trans hM5
    have hb06 := hb05.trans (hb6.mono hb05.size)
    have ho6 := ho5.below hb6
    refine wgo_val (v := .pointer (some ⟨w5.heap.size, 0, none⟩)) (w' := w5.alloc (.cells #[.string s, .slice A4 n4 c4] 56)) rfl rfl (fun _ ha => by rw [run_box rfl, ha.ev rfl]; rfl) rfl hM6 ?_
    refine wg_one (i := 9) (by kernel_rfl) ?_
    refine wgo_call rfl rfl Try.call20 (vs := [.pointer (some ⟨w5.heap.size, 0, none⟩), d5]) rfl rfl
      ((hdr_append (w5.alloc (.cells #[.string s, .slice A4 n4 c4] 56)) w4.heap.size w5.heap.size d5 (.slice A4 n4 c4) dl s nl l hblk6 (oct _ _ (hb5.trans (hb6.mono hb5.size)) (Nat.le_refl _)) ho6
        (fun h => by
          rcases ho5.2 with ⟨e, _⟩ | ⟨g, cap, cur, e, _, h3, _⟩
          · subst e; simp [Value.ownBlock] at h
          · subst e
            have h2 := lt_of_some h3
            simp only [Value.ownBlock, Option.some.injEq] at h
            omega) (Nat.le_trans hb5.size hb6.size) hs hl hlen).mono ?_)
    rintro e w7 ⟨d7, rfl, ho7, hb7⟩
    refine ⟨_, rfl, (hb7.block _ (lt_of_some hM4)).trans hM6, ?_⟩
    refine wg_take 10 rfl (by kernel_rfl) (by kernel_rfl) (by kernel_rfl) rfl (v := d7) (fun _ ha _ _ => by rw [run_assign _ _ rfl, ha.ev rfl]) rfl ?_
    refine wg_done (by kernel_rfl) ?_
    skip
    exact wk_ret r0 rfl rfl ⟨d7, rfl, own_mono ho7 hsz4, hb06.trans (hb7.mono hsz4)⟩
end Go.Proofs.Ythejiimocbfagaa
