/-
  FnMakeHeader: a header is written behind what stands there as the reference writes it; for every input that the row lets in.
-/
import Derived.Test.YthejiimocbfagaaHOpen
import Derived.Test.YthejiimocbfagaaHFacts
import Derived.Test.YthejiimocbfagaaRows
import Derived.WalkKit
import Derived.OpenShut
set_option linter.unusedVariables false
set_option linter.unusedSimpArgs false
namespace Go.Proofs.Ythejiimocbfagaa
open Go Go.RowKit Go.Proofs.Eng
set_option maxRecDepth 20000
set_option maxHeartbeats 4000000
theorem fits8 (w : World) (X : Nat → Prop) (nl : Bool) (v : Value) (l : List UInt8) (hv : BytesRep0 w X v l) :
    Calls Try.prog 18 #[.agg #[.bool nl, v]] w fun e w' => e = .returned (.bool (decide (l.length ≤ 2147483647))) ∧ Below w.heap.size w w' := by
  obtain ⟨A, c, rfl, _⟩ := hv.form
  have h1 := heap_alloc_new w (.cells #[.bool nl, .slice A l.length c] 32)
  have hb := below1 w (.cells #[.bool nl, .slice A l.length c] 32)
  have c1 := gtM l.length
  refine calls_wk (args := [.agg #[.bool nl, .slice A l.length c]]) Try.func18 rfl rfl ?_
  refine wk_seq ?_
  refine wk_reg (id := 0) ?_
  refine wk_box rfl rfl ?_
  refine wk_assign rfl rfl ?_
  refine wk_nil ?_
  refine wk_seq ?_
  refine wk_seq ?_
  refine wk_reg (id := 1) ?_
  refine wk_field (f := 1) (i := Try.t22) rfl Try.underlying32 rfl (by kernel_rfl) (by decide) rfl ?_
  refine wk_load rfl Try.underlying22 rfl (by exact cell_new rfl) rfl ?_
  refine wk_slen rfl Try.underlying22 rfl ?_
  refine wk_cmp rfl rfl (by with_reducible assumption) rfl ?_
  refine wk_nil ?_
  first
    | refine wk_load (v := .slice A l.length c) rfl Try.underlying22 rfl (cell_blk h1 rfl) rfl ?_
    | skip
  skip
  refine wk_cond (b := decide ((l.length : Int) > 2147483647)) rfl (fun h => ?_) (fun h => ?_)
  · have h2 := of_decide_eq_true h
    refine wk_seq ?_
    refine wk_reg (id := 2) ?_
    refine wk_assign rfl rfl ?_
    refine wk_nil ?_
    exact wk_ret r0 rfl rfl ⟨by rw [decide_eq_false (by omega)], hb⟩
  · have h2 := of_decide_eq_false h
    refine wk_skip ?_
    refine wk_seq ?_
    refine wk_reg (id := 3) ?_
    refine wk_assign rfl rfl ?_
    refine wk_nil ?_
    exact wk_ret r0 rfl rfl ⟨by rw [decide_eq_true (by omega)], hb⟩
theorem fits7 (w : World) (X : Nat → Prop) (s : ByteArray) (nl : Bool) (v : Value) (l : List UInt8) (hv : BytesRep0 w X v l) :
    Calls Try.prog 10 #[.agg #[.string s, .bool nl, v]] w fun e w' => e = .returned (.bool (decide (s.size ≤ 2147483647) && decide (l.length ≤ 2147483647))) ∧ Below w.heap.size w w' := by
  have h1 := heap_alloc_new w (.cells #[.string s, .bool nl, v] 34)
  have hb := below1 w (.cells #[.string s, .bool nl, v] 34)
  have c1 := gtM s.size
  refine calls_wk (args := [.agg #[.string s, .bool nl, v]]) Try.func10 rfl rfl ?_
  refine wk_seq ?_
  refine wk_reg (id := 0) ?_
  refine wk_box rfl rfl ?_
  refine wk_assign rfl rfl ?_
  refine wk_nil ?_
  refine wk_seq ?_
  refine wk_seq ?_
  refine wk_reg (id := 1) ?_
  refine wk_field (f := 0) (i := Try.t9) rfl Try.underlying34 rfl (by kernel_rfl) (by decide) rfl ?_
  refine wk_load rfl Try.underlying9 rfl (by exact cell_new rfl) rfl ?_
  refine wk_strlen rfl Try.underlying9 rfl ?_
  refine wk_cmp rfl rfl (by with_reducible assumption) rfl ?_
  refine wk_nil ?_
  first
    | refine wk_load (v := .string s) rfl Try.underlying9 rfl (cell_blk h1 rfl) rfl ?_
    | skip
  skip
  refine wk_cond (b := decide ((s.size : Int) > 2147483647)) rfl (fun h => ?_) (fun h => ?_)
  · have h2 := of_decide_eq_true h
    refine wk_seq ?_
    refine wk_reg (id := 2) ?_
    refine wk_assign rfl rfl ?_
    refine wk_nil ?_
    exact wk_ret r0 rfl rfl ⟨by rw [decide_eq_false (by omega)]; rfl, hb⟩
  have h2 := of_decide_eq_false h
  refine wk_skip ?_
  refine wk_seq ?_
  refine wk_seq ?_
  refine wk_reg (id := 3) ?_
  refine wk_field (f := 1) (i := Try.t32) rfl Try.underlying34 rfl (by kernel_rfl) (by decide) rfl ?_
  first
    | refine wk_loadA (i := Try.t32) rfl Try.underlying32 rfl (by kernel_rfl) (vs := [.bool nl, v]) rfl (fun j u hj => by
        rw [add_addr]
        refine cell_blk h1 ?_
        match j, hj with
        | 0, hj => simpa using hj
        | 1, hj => simpa using hj
        | j + 2, hj => simp at hj) rfl ?_
    | skip
  skip
  obtain ⟨bf, hbf⟩ : ∃ bf, bf = decide (l.length ≤ 2147483647) := ⟨_, rfl⟩
  refine wk_call Try.call18 (vs := [.agg #[.bool nl, v]]) rfl rfl ((fits8 _ X nl v l (hv.keep (keeps_below hb (Nat.le_refl _)))).mono ?_)
  rintro e w3 ⟨he, hb3⟩
  rw [← hbf] at he
  subst he
  refine ⟨_, rfl, ?_⟩
  have hb03 := hb.trans (hb3.mono hb.size)
  refine wk_not rfl rfl ?_
  refine wk_nil ?_
  rw [← hbf, decide_eq_true (p := s.size ≤ 2147483647) (by omega), Bool.true_and]
  cases bf with
  | true =>
    refine wk_condF rfl ?_
    refine wk_skip ?_
    refine wk_seq ?_
    refine wk_reg (id := 5) ?_
    refine wk_assign rfl rfl ?_
    refine wk_nil ?_
    exact wk_ret r0 rfl rfl ⟨rfl, hb03⟩
  | false =>
    refine wk_condT rfl ?_
    refine wk_seq ?_
    refine wk_reg (id := 4) ?_
    refine wk_assign rfl rfl ?_
    refine wk_nil ?_
    exact wk_ret r0 rfl rfl ⟨rfl, hb03⟩
theorem walk_MakeHeader (w : World) (dv v : Value) (dl l : List UInt8) (s : ByteArray) (nl : Bool) (hd : BytesRep0 w (fun _ => False) dv dl) (hv : BytesRep0 w (fun _ => False) v l) :
    Calls Try.prog 4 #[dv, .agg #[.string s, .bool nl, v]] w fun e w' => e = .returned (.bool true) ∧ Below w.heap.size w w' := by
  obtain ⟨A, c, rfl, _⟩ := hd.form
  obtain ⟨Av, cv, rfl, _⟩ := hv.form
  have h1 := heap_alloc_new w (.cells #[.string s, .bool nl, .slice Av l.length cv] 34)
  have hb1 := below1 w (.cells #[.string s, .bool nl, .slice Av l.length cv] 34)
  refine calls_wk (args := [.slice A dl.length c, .agg #[.string s, .bool nl, .slice Av l.length cv]]) Try.func4 rfl rfl ?_
  by_cases h0 : 2147483647 < dl.length
  · have c1 : cmp .gtr (dl.length : Int) 2147483647 = some true := by simp [cmp]; omega
    refine wk_seq ?_
    refine wk_reg (id := 0) ?_
    refine wk_box rfl rfl ?_
    refine wk_assign rfl rfl ?_
    refine wk_nil ?_
    refine wk_seq ?_
    refine wk_seq ?_
    refine wk_reg (id := 1) ?_
    refine wk_move rfl rfl ?_
    refine wk_slen rfl Try.underlying22 rfl ?_
    refine wk_cmp rfl rfl (by with_reducible assumption) rfl ?_
    refine wk_move rfl rfl ?_
    refine wk_gF rfl rfl ?_
    refine wk_gF rfl rfl ?_
    refine wk_gF rfl rfl ?_
    refine wk_pick rfl rfl rfl rfl ?_
    refine wk_nil ?_
    refine wk_condT rfl ?_
    refine wk_seq ?_
    refine wk_reg (id := 2) ?_
    refine wk_assign rfl rfl ?_
    refine wk_nil ?_
    exact wk_ret r0 rfl rfl ⟨rfl, hb1⟩
  have c1 : cmp .gtr (dl.length : Int) 2147483647 = some false := by simp [cmp]; omega
  refine wk_seq ?_
  refine wk_reg (id := 0) ?_
  refine wk_box rfl rfl ?_
  refine wk_assign rfl rfl ?_
  refine wk_nil ?_
  refine wk_seq ?_
  refine wk_seq ?_
  refine wk_reg (id := 1) ?_
  refine wk_move rfl rfl ?_
  refine wk_slen rfl Try.underlying22 rfl ?_
  refine wk_cmp rfl rfl (by with_reducible assumption) rfl ?_
  refine wk_move rfl rfl ?_
  refine wk_gT rfl ?_; refine wk_loadA (i := Try.t34) rfl Try.underlying34 rfl (by kernel_rfl) rfl (by exact cells_new) rfl ?_
  refine wk_gT rfl ?_
  first
    | refine wk_loadA (i := Try.t34) rfl Try.underlying34 rfl (by kernel_rfl) (vs := [.string s, .bool nl, .slice Av l.length cv]) rfl (cells_blk h1) rfl ?_
    | skip
  skip
  obtain ⟨bf, hbf⟩ : ∃ bf, bf = (decide (s.size ≤ 2147483647) && decide (l.length ≤ 2147483647)) := ⟨_, rfl⟩
  refine wk_call Try.call10 (vs := [.agg #[.string s, .bool nl, .slice Av l.length cv]]) rfl rfl ((fits7 _ (fun _ => False) s nl _ l (hv.keep (keeps_below hb1 (Nat.le_refl _)))).mono ?_)
  rintro e w2 ⟨he, hb2⟩
  rw [← hbf] at he
  subst he
  refine ⟨_, rfl, ?_⟩
  have hM2 := (hb2.block _ (lt_of_some h1)).trans h1
  have hb02 := hb1.trans (hb2.mono hb1.size)
  refine wk_gT rfl ?_; refine wk_not rfl rfl ?_
  refine wk_pick rfl rfl rfl rfl ?_
  refine wk_nil ?_
  cases bf with
  | false =>
    refine wk_condT rfl ?_
    refine wk_seq ?_
    refine wk_reg (id := 2) ?_
    refine wk_assign rfl rfl ?_
    refine wk_nil ?_
    exact wk_ret r0 rfl rfl ⟨rfl, hb02⟩
  | true =>
    obtain ⟨hsz, hlz⟩ : s.size ≤ 2147483647 ∧ l.length ≤ 2147483647 := by simpa using hbf.symm
    refine wk_condF rfl ?_
    refine wk_skip ?_
    refine wk_seq ?_
    have e1 : IntKind.i64.wrap ((s.size : Int) + (l.length : Int)) = ((s.size + l.length : Nat) : Int) := (i64w _ (by omega) (by omega)).trans (by omega)
    have e2 : IntKind.i64.wrap (IntKind.i64.wrap ((s.size : Int) + (l.length : Int)) + (dl.length : Int)) = ((s.size + l.length + dl.length : Nat) : Int) := by
      rw [e1]
      exact (i64w _ (by omega) (by omega)).trans (by omega)
    refine wk_draw (fun w' => w'.heap[w.heap.size]? = some (.cells #[.string s, .bool nl, .slice Av l.length cv] 34 (0, 0))) [(0, true), (1, true), (2, true), (3, true), (4, true), (5, true), (6, true), (7, true), (8, true), (9, true), (10, true), (11, true), (12, true), (13, true), (14, true), (16, true), (17, true), (15, false), (18, false), (19, false), (20, true), (21, true)] mixed pq0 (by kernel_rfl) (by kernel_rfl) (by kernel_rfl) (fun w5 h5 _ => by rw [h5]; exact hM2) ?_
    intro w3 h3 hb3
    have hM3 : w3.heap[w.heap.size]? = some (.cells #[.string s, .bool nl, .slice Av l.length cv] 34 (0, 0)) := by rw [h3]; exact hM2
    have hb03 := hb02.trans (hb3.mono hb02.size)
    refine wd_field (f := 0) (ti := Try.t9) rfl rfl Try.underlying34 rfl (by kernel_rfl) (by decide) rfl ?_
    refine wd_load (v := .string s) rfl rfl Try.underlying9 rfl (fun w' hS => cell_blk hS rfl) rfl ?_
    refine wd_strlen rfl rfl Try.underlying9 rfl ?_
    refine wd_field (f := 1) (ti := Try.t32) rfl rfl Try.underlying34 rfl (by kernel_rfl) (by decide) rfl ?_
    refine wd_field (f := 1) (ti := Try.t22) rfl rfl Try.underlying32 rfl (by kernel_rfl) (by decide) rfl ?_
    refine wd_load (v := .slice Av l.length cv) rfl rfl Try.underlying22 rfl (fun w' hS => cell_blk hS rfl) rfl ?_
    refine wd_slen rfl rfl Try.underlying22 rfl ?_
    refine wd_add rfl rfl rfl rfl ?_
    refine wd_move rfl rfl rfl ?_
    refine wd_slen rfl rfl Try.underlying22 rfl ?_
    refine wd_add rfl rfl rfl rfl ?_
    by_cases h4 : 131072 < s.size + l.length + dl.length
    · have c4 : cmp .gtr (IntKind.i64.wrap (IntKind.i64.wrap ((s.size : Int) + (l.length : Int)) + (dl.length : Int))) 131072 = some true := by rw [e2]; simp [cmp]; omega
      refine wd_cmp rfl rfl rfl c4 rfl ?_
      refine wd_move rfl rfl rfl ?_
      refine wd_skip rfl rfl ?_
      refine wd_skip rfl rfl ?_
      refine wd_skip rfl rfl ?_
      refine wd_skip rfl rfl ?_
      refine wd_skip1 rfl rfl ?_
      refine wd_skip1 rfl rfl ?_
      refine wd_skip1 rfl rfl ?_
      refine wd_pick (v := undef) rfl rfl rfl rfl rfl ?_
      refine wd_assign rfl rfl rfl ?_
      refine wd_done ?_
      skip
      exact wk_ret r0 rfl rfl ⟨rfl, hb03⟩
    · have c4 : cmp .gtr (IntKind.i64.wrap (IntKind.i64.wrap ((s.size : Int) + (l.length : Int)) + (dl.length : Int))) 131072 = some false := by rw [e2]; simp [cmp]; omega
      refine wd_cmp rfl rfl rfl c4 rfl ?_
      refine wd_move rfl rfl rfl ?_
      refine wd_move rfl rfl rfl ?_
      refine wd_loadA (ti := Try.t34) rfl rfl Try.underlying34 rfl (by kernel_rfl) (vs := [.string s, .bool nl, .slice Av l.length cv]) rfl (fun w' hS => cells_blk hS) rfl ?_
      refine wd_move rfl rfl rfl ?_
      refine wd_loadA (ti := Try.t34) rfl rfl Try.underlying34 rfl (by kernel_rfl) (vs := [.string s, .bool nl, .slice Av l.length cv]) rfl (fun w' hS => cells_blk hS) rfl ?_
      refine wd_call rfl Try.call11 (vs := [.slice A dl.length c, .agg #[.string s, .bool nl, .slice Av l.length cv]]) rfl rfl ((make_any w3 (fun _ => False) _ dl s nl _ l (hd.keep (keeps_below hb03 (Nat.le_refl _))) (hv.keep (keeps_below hb03 (Nat.le_refl _))) (by omega) (by omega) (by omega)).mono ?_)
      rintro e w4 ⟨d4, rfl, ho4, hb4⟩
      have hM4 := (hb4.block _ (lt_of_some hM3)).trans hM3
      have hb04 := hb03.trans (hb4.mono hb03.size)
      refine ⟨_, rfl, hM4, ?_⟩
      refine wd_call rfl Try.call12 (vs := [.agg #[.string s, .bool nl, .slice Av l.length cv]]) rfl rfl ((header_any w4 (fun _ => False) s nl _ l (hv.keep (keeps_below hb04 (Nat.le_refl _))) (by omega) (by omega)).mono ?_)
      rintro e w5 ⟨d5, rfl, ho5, hb5⟩
      have hM5 := (hb5.block _ (lt_of_some hM4)).trans hM4
      have hb05 := hb04.trans (hb5.mono hb04.size)
      refine ⟨_, rfl, hM5, ?_⟩
      have ho4' := ho4.below hb5
      have hss : s.data.toList.length = s.size := by rw [Array.length_toList]; rfl
      have hu := uv_length (2 * s.size)
      have hu2 := uv_length (2 * l.length)
      have hu3 := uv_length 1
      have hlo : (octB nl l).length ≤ 10 + l.length := by
        unfold octB
        split
        · omega
        · rw [List.length_append]; omega
      have hhl : (hdrB s nl l).length ≤ 1000000 := by
        rw [hdrB, List.length_append, List.length_append, hss]
        omega
      refine wd_call rfl Try.call7 (vs := [d4, .slice A dl.length c, d5]) rfl rfl ((behind_any w5 (fun _ => False) (fun _ => False) (fun _ => False) d4 _ d5 (dl ++ hdrB s nl l) dl (hdrB s nl l) ((OwnC.of_own ho4').bytes (fun _ _ _ h => h)) (hd.keep (keeps_below hb05 (Nat.le_refl _))) ((OwnC.of_own ho5).bytes (fun _ _ _ h => h)) (by rw [List.length_append, lim_eq]; omega) (by rw [lim_eq]; omega)).mono ?_)
      rintro e w6 ⟨rfl, hb6⟩
      refine ⟨_, rfl, (hb6.block _ (lt_of_some hM5)).trans hM5, ?_⟩
      refine wd_pick rfl rfl rfl rfl rfl ?_
      refine wd_assign rfl rfl rfl ?_
      refine wd_done ?_
      skip
      exact wk_ret r0 rfl rfl ⟨by rw [beq_self_eq_true]; rfl, hb05.trans (hb6.mono hb05.size)⟩
open Go.ChangeShapes Go.WideShapes Go.ChangeAt in
set_option maxRecDepth 100000 in
set_option linter.unusedVariables false in
theorem lifted_MakeHeader (os : Os) (started : os.Started) (H : Type) (enc : TypeId × Value → H) :
    ReturnsInHanded {} Try.checked os 4 .any (Rows.fnMakeHeaderSpec.pre6 enc Try.prog Try.f4 Rows.fnMakeHeaderRow.domain false) (Rows.fnMakeHeaderSpec.post enc Try.prog Try.f4 false true false false) := by
  refine returnsInHanded_of_change (C := Try.checked) (by kernel_rfl) started (by kernel_rfl) Try.func4
    (ChangeSpec.witness6 (enc := enc) (C := Try.checked) false ⟨#[], #[.slice none 0 0, .agg #[.string ⟨#[]⟩, .bool false, .slice none 0 0]], []⟩ 8 (by kernel_rfl) (by kernel_rfl) (by kernel_rfl) (by kernel_rfl)) ?_
  intro W base args ds gs before hval0 hW hcnd _
  have hval : ∀ (j : Nat) t v, Try.f4.params[j]? = some t → args[j]? = some v → Value.okWide Try.prog W .any base t v := hval0
  have hW' := hW
  obtain ⟨p, q, hA0, hV, rfl, hfz, hnd⟩ := hW
  have hA : DataW.TrodAll enc Try.prog W 0 (fun _ => true) true Try.f4.params.toList args.toList ds p := hA0
  rw [Try.params4] at hA hval
  obtain ⟨v0, vs0, d0, ds0, p0, q0, hargs, rfl, rfl, h0, r0⟩ := trodAll_cons hA
  obtain ⟨v1, vs1, d1, ds1, p1, q1, rfl, rfl, rfl, h1, r1⟩ := trodAll_cons r0
  obtain ⟨rfl, rfl, rfl⟩ := trodAll_nil r1
  obtain rfl : args = #[v0, v1] := by cases args; simp_all
  obtain ⟨rfl, rfl⟩ := trodVars_none hV
  obtain ⟨ct, rfl, _⟩ := okWide_struct Try.underlying34 (hval 1 34 v1 rfl rfl)
  obtain ⟨vs, rfl⟩ : ∃ l : List Value, ct = l.toArray := ⟨ct.toList, by simp⟩
  obtain ⟨A, n, c, rfl⟩ := okWide_slice Try.underlying22 (hval 0 22 v0 rfl rfl)
  obtain ⟨fu0, hfu0⟩ := id h0
  obtain ⟨dl, hd⟩ := bytes_in0 Try.underlying22 Try.underlying5 (by kernel_rfl) (c := .slice A n c) hfu0
  obtain ⟨fu, hfu⟩ := id h1
  obtain ⟨s, nl, v, l, rfl, hv⟩ := header_in (cs := vs) hfu
  clear hA0 hval0
  simp only [List.append_nil] at hW'
  refine (walk_MakeHeader W _ v dl l s nl hd hv).mono fun e W' ⟨he, hb⟩ => ?_
  subst he
  have hlt0 : ∀ x ∈ p0, x.block < W.heap.size := fun x hx => hW'.lt x (by simp [hx])
  have hlt1 : ∀ x ∈ p1, x.block < W.heap.size := fun x hx => hW'.lt x (by simp [hx])
  exact ⟨_, rfl, post_of_below (pa := p0 ++ (p1 ++ [])) (pv := []) hW' (fun _ _ _ => (trodAll_cons_mk (shut_bool Try.underlying4 _) trodAll_mk0))
    (fun sp hsp => (trodAll_cons_mk (WideElems.Trod_stays P_laid (by kernel_rfl) (of_decide_eq_true (by kernel_rfl)) h0 (fun x hx => hb.same (hlt0 x hx)) (fun x hx => hsp x (by simp [hx]))) (trodAll_cons_mk (WideElems.Trod_stays P_laid (by kernel_rfl) (of_decide_eq_true (by kernel_rfl)) h1 (fun x hx => hb.same (hlt1 x hx)) (fun x hx => hsp x (by simp [hx]))) trodAll_mk0))) (fun _ _ => rfl) (by simp)
    hb (ok_one (by kernel_rfl) rfl (okWide_bool_mk Try.underlying4 _))⟩
theorem joined_MakeHeader : joinedFacts Try.prog 4 Try.f4 Rows.fnMakeHeaderSpec Rows.fnMakeHeaderRow = true := by
  unfold joinedFacts
  iterate 4 refine and2 ?_ (by as_aux_lemma => kernel_rfl)
  refine and2 (and2 (and2 (and2 ?_ P_heard) P_enter) P_lifts) P_make
  refine and2 (and2 ?_ P_keys) (by as_aux_lemma => kernel_rfl)
  iterate 19 refine and2 ?_ (by as_aux_lemma => kernel_rfl)
  refine and2 (and2 ?_ P_laid) P_maps
  kernel_rfl
theorem holds_MakeHeader : Rows.FnMakeHeaderSaid :=
  OpenClaim.holds_of_wide 4 Try.f4 rfl rfl rfl rfl rfl rfl rfl ⟨rfl, rfl, rfl, rfl, rfl⟩ rfl rfl rfl rfl rfl (by as_aux_lemma => kernel_rfl) Try.func4 joined_MakeHeader
    (of_decide_eq_true (by as_aux_lemma => kernel_rfl)) (by unfold Func.isWrapper; first | (rw [if_pos (by decide +kernel)]; kernel_rfl) | (rw [if_neg (by decide +kernel)]; exact ⟨rfl, rfl⟩))
    (fun os started H enc _ => lifted_MakeHeader os started H enc)
#print axioms holds_MakeHeader
end Go.Proofs.Ythejiimocbfagaa
