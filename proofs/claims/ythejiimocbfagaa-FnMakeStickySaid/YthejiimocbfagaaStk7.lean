/-
  FnMakeSticky: what a member of the sticky strategy says is written behind what stands there as the reference writes it; for every input that the row lets in.
-/
import Derived.Test.YthejiimocbfagaaStk6
import Derived.Test.YthejiimocbfagaaHFacts
import Derived.Test.YthejiimocbfagaaRows
import Derived.WalkKit
import Derived.OpenShut
set_option linter.unusedVariables false
set_option linter.unusedSimpArgs false
namespace Go.Proofs.Ythejiimocbfagaa
open Go Go.RowKit Go.Proofs.Eng
set_option maxRecDepth 20000
set_option maxHeartbeats 4000000
theorem len_le_sum : ∀ (l : List (ByteArray × List Int)) (r : ByteArray × List Int), r ∈ l → r.2.length ≤ (l.map fun r => r.2.length).sum := by
  intro l
  induction l with
  | nil => intro r h; cases h
  | cons x l ih =>
    intro r h
    simp only [List.map_cons, List.sum_cons]
    rcases List.mem_cons.1 h with rfl | h
    · omega
    · have := ih r h; omega
theorem stkB_len (l : List (ByteArray × List Int)) (g : Int) (hl : l.length ≤ 2000) (hp : ∀ r ∈ l, r.1.size ≤ 32767 ∧ r.2.length ≤ 2000) : (stkB l g).length ≤ 100000000 := by
  have h1 := flatLen ownB 40773 l (fun r hr => ownB_len r (hp r hr).1 (hp r hr).2)
  have h2 : l.length * 40773 ≤ 2000 * 40773 := Nat.mul_le_mul hl (Nat.le_refl _)
  rw [stkB, List.length_append, List.length_append, be_length]
  split
  · simp only [List.length_nil]; omega
  · rw [be_length]; omega
theorem walk_MakeSticky (w : World) (dv v : Value) (dl : List UInt8) (l : List (ByteArray × List Int)) (g : Int) (hd : BytesRep0 w (fun _ => False) dv dl) (hv : ORep w (fun _ => False) v l) (hg32 : IntKind.i32.wrap g = g) :
    Calls Try.prog 3 #[dv, .agg #[v, .int .i32 g]] w fun e w' => e = .returned (.bool true) ∧ Below w.heap.size w w' := by
  obtain ⟨A, c, rfl, _⟩ := hd.form
  obtain ⟨Av, cv, rfl⟩ : ∃ A c, v = .slice A l.length c := by obtain ⟨_, ⟨A, c, h, _⟩, _⟩ := hv; exact ⟨A, c, h⟩
  have h1 := heap_alloc_new w (.cells #[.slice Av l.length cv, .int .i32 g] 25)
  have hb1 := below1 w (.cells #[.slice Av l.length cv, .int .i32 g] 25)
  refine calls_wk (args := [.slice A dl.length c, .agg #[.slice Av l.length cv, .int .i32 g]]) Try.func3 rfl rfl ?_
  by_cases h0 : 2147483647 < dl.length
  · have c1 : cmp .gtr (dl.length : Int) 2147483647 = some true := by simp [cmp]; omega
    refine wk_seq ?_
    refine wk_reg (id := 0) ?_
    refine wk_box rfl rfl ?_
    refine wk_assign rfl rfl ?_
    refine wk_nil ?_
    refine wk_seq ?_
    refine wk_seq ?_
    refine wk_reg (id := 1) ?_
    refine wk_move rfl rfl ?_
    refine wk_slen rfl Try.underlying22 rfl ?_
    refine wk_cmp rfl rfl (by with_reducible assumption) rfl ?_
    refine wk_move rfl rfl ?_
    refine wk_gF rfl rfl ?_
    refine wk_gF rfl rfl ?_
    refine wk_gF rfl rfl ?_
    refine wk_pick rfl rfl rfl rfl ?_
    refine wk_nil ?_
    refine wk_condT rfl ?_
    refine wk_seq ?_
    refine wk_reg (id := 2) ?_
    refine wk_assign rfl rfl ?_
    refine wk_nil ?_
    exact wk_ret r0 rfl rfl ⟨rfl, hb1⟩
  have c1 : cmp .gtr (dl.length : Int) 2147483647 = some false := by simp [cmp]; omega
  refine wk_seq ?_
  refine wk_reg (id := 0) ?_
  refine wk_box rfl rfl ?_
  refine wk_assign rfl rfl ?_
  refine wk_nil ?_
  refine wk_seq ?_
  refine wk_seq ?_
  refine wk_reg (id := 1) ?_
  refine wk_move rfl rfl ?_
  refine wk_slen rfl Try.underlying22 rfl ?_
  refine wk_cmp rfl rfl (by with_reducible assumption) rfl ?_
  refine wk_move rfl rfl ?_
  refine wk_gT rfl ?_; refine wk_loadA (i := Try.t25) rfl Try.underlying25 rfl (by kernel_rfl) rfl (by exact cells_new) rfl ?_
  refine wk_gT rfl ?_
  first
    | refine wk_loadA (i := Try.t25) rfl Try.underlying25 rfl (by kernel_rfl) (vs := [.slice Av l.length cv, .int .i32 g]) rfl (cells_blk h1) rfl ?_
    | skip
  skip
  refine wk_call Try.call5 (vs := [.agg #[.slice Av l.length cv, .int .i32 g]]) rfl rfl ((fits14 _ (fun _ => False) _ l g (hv.keep (keeps_below hb1 (Nat.le_refl _)))).mono ?_)
  rintro e w2 ⟨bf, rfl, hbf, hb2⟩
  refine ⟨_, rfl, ?_⟩
  have hM2 := (hb2.block _ (lt_of_some h1)).trans h1
  have hb02 := hb1.trans (hb2.mono hb1.size)
  refine wk_gT rfl ?_; refine wk_not rfl rfl ?_
  refine wk_pick rfl rfl rfl rfl ?_
  refine wk_nil ?_
  cases bf with
  | false =>
    refine wk_condT rfl ?_
    refine wk_seq ?_
    refine wk_reg (id := 2) ?_
    refine wk_assign rfl rfl ?_
    refine wk_nil ?_
    exact wk_ret r0 rfl rfl ⟨rfl, hb02⟩
  | true =>
    obtain ⟨hl32, hall⟩ := hbf rfl
    refine wk_condF rfl ?_
    refine wk_skip ?_
    refine wk_seq ?_
    refine wk_draw (fun w' => w'.heap[w.heap.size]? = some (.cells #[.slice Av l.length cv, .int .i32 g] 25 (0, 0))) [(0, true), (1, false), (2, true), (3, true), (4, true), (5, true), (6, true), (7, true), (8, true), (9, true), (10, true), (12, true), (13, true), (11, false), (14, false), (15, false), (16, true), (17, true)] mixed pq0 (by kernel_rfl) (by kernel_rfl) (by kernel_rfl) (fun w5 h5 _ => by rw [h5]; exact hM2) ?_
    intro w3 h3 hb3
    have hM3 : w3.heap[w.heap.size]? = some (.cells #[.slice Av l.length cv, .int .i32 g] 25 (0, 0)) := by rw [h3]; exact hM2
    have hb03 := hb02.trans (hb3.mono hb02.size)
    refine wd_loadA (ti := Try.t25) rfl rfl Try.underlying25 rfl (by kernel_rfl) (vs := [.slice Av l.length cv, .int .i32 g]) rfl (fun w' hS => cells_blk hS) rfl ?_
    refine wd_call rfl Try.call6 (vs := [.agg #[.slice Av l.length cv, .int .i32 g]]) rfl rfl ((small_any w3 (fun _ => False) _ l g (hv.keep (keeps_below hb03 (Nat.le_refl _))) hl32 hall).mono ?_)
    rintro e w4 ⟨bs, rfl, hbs, hb4⟩
    have hM4 := (hb4.block _ (lt_of_some hM3)).trans hM3
    have hb04 := hb03.trans (hb4.mono hb03.size)
    refine ⟨_, rfl, hM4, ?_⟩
    refine wd_not rfl rfl rfl ?_
    refine wd_move rfl rfl rfl ?_
    cases bs with
    | false =>
      refine wd_skip rfl rfl ?_
      refine wd_skip rfl rfl ?_
      refine wd_skip rfl rfl ?_
      refine wd_pick (b := true) (v := undef) rfl rfl rfl rfl rfl ?_
      refine wd_move (v := .bool true) rfl rfl rfl ?_
      refine wd_skip rfl rfl ?_
      refine wd_skip rfl rfl ?_
      refine wd_skip rfl rfl ?_
      refine wd_skip rfl rfl ?_
      refine wd_skip1 rfl rfl ?_
      refine wd_skip1 rfl rfl ?_
      refine wd_skip1 rfl rfl ?_
      refine wd_pick (b := true) (v := undef) rfl rfl rfl rfl rfl ?_
      refine wd_assign (v := .bool true) rfl rfl rfl ?_
      refine wd_done ?_
      skip
      exact wk_ret r0 rfl rfl ⟨rfl, hb04⟩
    | true =>
      obtain ⟨hsum, hsz⟩ := hbs rfl
      have hl : l.length ≤ 2000 := by omega
      have hp : ∀ r ∈ l, r.1.size ≤ 32767 ∧ r.2.length ≤ 2000 := fun r hr => ⟨hsz r hr, by have := len_le_sum l r hr; omega⟩
      refine wd_move rfl rfl rfl ?_
      refine wd_slen rfl rfl Try.underlying22 rfl ?_
      by_cases h4 : 131072 < dl.length
      · have c4 : cmp .gtr (dl.length : Int) 131072 = some true := by simp [cmp]; omega
        refine wd_cmp rfl rfl rfl c4 rfl ?_
        refine wd_pick (b := false) (v := .bool true) rfl rfl rfl rfl rfl ?_
        refine wd_move (v := .bool true) rfl rfl rfl ?_
        refine wd_skip rfl rfl ?_
        refine wd_skip rfl rfl ?_
        refine wd_skip rfl rfl ?_
        refine wd_skip rfl rfl ?_
        refine wd_skip1 rfl rfl ?_
        refine wd_skip1 rfl rfl ?_
        refine wd_skip1 rfl rfl ?_
        refine wd_pick (b := true) (v := undef) rfl rfl rfl rfl rfl ?_
        refine wd_assign (v := .bool true) rfl rfl rfl ?_
        refine wd_done ?_
        skip
        exact wk_ret r0 rfl rfl ⟨rfl, hb04⟩
      · have c4 : cmp .gtr (dl.length : Int) 131072 = some false := by simp [cmp]; omega
        refine wd_cmp rfl rfl rfl c4 rfl ?_
        refine wd_pick (b := false) (v := .bool false) rfl rfl rfl rfl rfl ?_
        refine wd_move (v := .bool false) rfl rfl rfl ?_
        refine wd_move rfl rfl rfl ?_
        refine wd_loadA (ti := Try.t25) rfl rfl Try.underlying25 rfl (by kernel_rfl) (vs := [.slice Av l.length cv, .int .i32 g]) rfl (fun w' hS => cells_blk hS) rfl ?_
        refine wd_move rfl rfl rfl ?_
        refine wd_loadA (ti := Try.t25) rfl rfl Try.underlying25 rfl (by kernel_rfl) (vs := [.slice Av l.length cv, .int .i32 g]) rfl (fun w' hS => cells_blk hS) rfl ?_
        refine wd_call rfl Try.call8 (vs := [.slice A dl.length c, .agg #[.slice Av l.length cv, .int .i32 g]]) rfl rfl ((mks_any w4 (fun _ => False) _ _ dl l g (hd.keep (keeps_below hb04 (Nat.le_refl _))) (hv.keep (keeps_below hb04 (Nat.le_refl _))) (by omega) hl hp).mono ?_)
        rintro e w5 ⟨d5, rfl, ho5, hb5⟩
        have hM5 := (hb5.block _ (lt_of_some hM4)).trans hM4
        have hb05 := hb04.trans (hb5.mono hb04.size)
        refine ⟨_, rfl, hM5, ?_⟩
        refine wd_call rfl Try.call9 (vs := [.agg #[.slice Av l.length cv, .int .i32 g]]) rfl rfl ((stb_any w5 (fun _ => False) _ l g (hv.keep (keeps_below hb05 (Nat.le_refl _))) hg32 hl hp).mono ?_)
        rintro e w6 ⟨d6, rfl, ho6, hb6⟩
        have hM6 := (hb6.block _ (lt_of_some hM5)).trans hM5
        have hb06 := hb05.trans (hb6.mono hb05.size)
        refine ⟨_, rfl, hM6, ?_⟩
        have ho5' := ho5.below hb6
        have hsl := stkB_len l g hl hp
        refine wd_call rfl Try.call7 (vs := [d5, .slice A dl.length c, d6]) rfl rfl ((behind_any w6 (fun _ => False) (fun _ => False) (fun _ => False) d5 _ d6 (dl ++ stkB l g) dl (stkB l g) ((OwnC.of_own ho5').bytes (fun _ _ _ h => h)) (hd.keep (keeps_below hb06 (Nat.le_refl _))) ((OwnC.of_own ho6).bytes (fun _ _ _ h => h)) (by rw [List.length_append, lim_eq]; omega) (by rw [lim_eq]; omega)).mono ?_)
        rintro e w7 ⟨rfl, hb7⟩
        refine ⟨_, rfl, (hb7.block _ (lt_of_some hM6)).trans hM6, ?_⟩
        refine wd_pick rfl rfl rfl rfl rfl ?_
        refine wd_assign rfl rfl rfl ?_
        refine wd_done ?_
        skip
        exact wk_ret r0 rfl rfl ⟨by rw [beq_self_eq_true]; rfl, hb06.trans (hb7.mono hb06.size)⟩
open Go.ChangeShapes Go.WideShapes Go.ChangeAt in
set_option maxRecDepth 100000 in
set_option linter.unusedVariables false in
theorem lifted_MakeSticky (os : Os) (started : os.Started) (H : Type) (enc : TypeId × Value → H) :
    ReturnsInHanded {} Try.checked os 3 .any (Rows.fnMakeStickySpec.pre6 enc Try.prog Try.f3 Rows.fnMakeStickyRow.domain false) (Rows.fnMakeStickySpec.post enc Try.prog Try.f3 false true false false) := by
  refine returnsInHanded_of_change (C := Try.checked) (by kernel_rfl) started (by kernel_rfl) Try.func3
    (ChangeSpec.witness6 (enc := enc) (C := Try.checked) false ⟨#[], #[.slice none 0 0, .agg #[.slice none 0 0, .int .i32 0]], []⟩ 8 (by kernel_rfl) (by kernel_rfl) (by kernel_rfl) (by kernel_rfl)) ?_
  intro W base args ds gs before hval0 hW hcnd _
  have hval : ∀ (j : Nat) t v, Try.f3.params[j]? = some t → args[j]? = some v → Value.okWide Try.prog W .any base t v := hval0
  have hW' := hW
  obtain ⟨p, q, hA0, hV, rfl, hfz, hnd⟩ := hW
  have hA : DataW.TrodAll enc Try.prog W 0 (fun _ => true) true Try.f3.params.toList args.toList ds p := hA0
  rw [Try.params3] at hA hval
  obtain ⟨v0, vs0, d0, ds0, p0, q0, hargs, rfl, rfl, h0, r0⟩ := trodAll_cons hA
  obtain ⟨v1, vs1, d1, ds1, p1, q1, rfl, rfl, rfl, h1, r1⟩ := trodAll_cons r0
  obtain ⟨rfl, rfl, rfl⟩ := trodAll_nil r1
  obtain rfl : args = #[v0, v1] := by cases args; simp_all
  obtain ⟨rfl, rfl⟩ := trodVars_none hV
  obtain ⟨ct, rfl, _⟩ := okWide_struct Try.underlying25 (hval 1 25 v1 rfl rfl)
  obtain ⟨vs, rfl⟩ : ∃ l : List Value, ct = l.toArray := ⟨ct.toList, by simp⟩
  obtain ⟨A, n, c, rfl⟩ := okWide_slice Try.underlying22 (hval 0 22 v0 rfl rfl)
  obtain ⟨fu0, hfu0⟩ := id h0
  obtain ⟨dl, hd⟩ := bytes_in0 Try.underlying22 Try.underlying5 (by kernel_rfl) (c := .slice A n c) hfu0
  obtain ⟨fu, hfu⟩ := id h1
  obtain ⟨v, l, g, rfl, hv, hg⟩ := sticky_in (cs := vs) hfu
  clear hA0 hval0
  simp only [List.append_nil] at hW'
  refine (walk_MakeSticky W _ v dl l g hd hv hg).mono fun e W' ⟨he, hb⟩ => ?_
  subst he
  have hlt0 : ∀ x ∈ p0, x.block < W.heap.size := fun x hx => hW'.lt x (by simp [hx])
  have hlt1 : ∀ x ∈ p1, x.block < W.heap.size := fun x hx => hW'.lt x (by simp [hx])
  exact ⟨_, rfl, post_of_below (pa := p0 ++ (p1 ++ [])) (pv := []) hW' (fun _ _ _ => (trodAll_cons_mk (shut_bool Try.underlying4 _) trodAll_mk0))
    (fun sp hsp => (trodAll_cons_mk (WideElems.Trod_stays P_laid (by kernel_rfl) (of_decide_eq_true (by kernel_rfl)) h0 (fun x hx => hb.same (hlt0 x hx)) (fun x hx => hsp x (by simp [hx]))) (trodAll_cons_mk (WideElems.Trod_stays P_laid (by kernel_rfl) (of_decide_eq_true (by kernel_rfl)) h1 (fun x hx => hb.same (hlt1 x hx)) (fun x hx => hsp x (by simp [hx]))) trodAll_mk0))) (fun _ _ => rfl) (by simp)
    hb (ok_one (by kernel_rfl) rfl (okWide_bool_mk Try.underlying4 _))⟩
theorem joined_MakeSticky : joinedFacts Try.prog 3 Try.f3 Rows.fnMakeStickySpec Rows.fnMakeStickyRow = true := by
  unfold joinedFacts
  iterate 4 refine and2 ?_ (by as_aux_lemma => kernel_rfl)
  refine and2 (and2 (and2 (and2 ?_ P_heard) P_enter) P_lifts) P_make
  refine and2 (and2 ?_ P_keys) (by as_aux_lemma => kernel_rfl)
  iterate 19 refine and2 ?_ (by as_aux_lemma => kernel_rfl)
  refine and2 (and2 ?_ P_laid) P_maps
  kernel_rfl
theorem holds_MakeSticky : Rows.FnMakeStickySaid :=
  OpenClaim.holds_of_wide 3 Try.f3 rfl rfl rfl rfl rfl rfl rfl ⟨rfl, rfl, rfl, rfl, rfl⟩ rfl rfl rfl rfl rfl (by as_aux_lemma => kernel_rfl) Try.func3 joined_MakeSticky
    (of_decide_eq_true (by as_aux_lemma => kernel_rfl)) (by unfold Func.isWrapper; first | (rw [if_pos (by decide +kernel)]; kernel_rfl) | (rw [if_neg (by decide +kernel)]; exact ⟨rfl, rfl⟩))
    (fun os started H enc _ => lifted_MakeSticky os started H enc)
#print axioms holds_MakeSticky
end Go.Proofs.Ythejiimocbfagaa
