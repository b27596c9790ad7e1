/-
  The reference: a part; by the contract of the tags that nobody knows.
-/
import Derived.Test.YthejiimocbfagabGreatDoorSpec6
set_option linter.unusedVariables false
set_option linter.unusedSimpArgs false
namespace Go.Proofs.YthejiimocbfagabGreatDoor
open Go Go.RowKit Go.Proofs.Eng
set_option maxRecDepth 20000
set_option maxHeartbeats 8000000

theorem usual_all {G : List (Nat × List UInt8) → Prop} (h0 : G []) (hU : UnkC G) (d : Nat) : UsualC G d := by
  induction d with
  | zero => exact usual_any h0 hU 0 (fun d' h => by omega)
  | succ d ih =>
    refine usual_any h0 hU (d + 1) fun d' h => ?_
    obtain rfl : d = d' := by omega
    exact ih
theorem sKnown_le {fs : List Fld} (h : TagsOk fs) : sKnown fs ≤ 2147483648 := by
  induction fs with
  | nil => simp [sKnown]
  | cons f r ih =>
    have h1 := h.1
    have h2 := ih h.2
    simp only [sKnown]
    split <;> omega
theorem uv_pos (n : Nat) : 1 ≤ (uv n).length := by
  unfold uv uvF
  split <;> simp
theorem sWtag_pos (b : List UInt8) (k : Nat) : 1 ≤ (sWtag b k).length := by
  have := uv_pos k
  simp only [sWtag, List.length_append]
  omega
theorem sTagAt_pos (fd : Fld → Tree → List UInt8) (us : Fld → Tree → Bool) (t : Tree) (tag : Nat) (fs : List Fld) (i : Nat) : ∀ x ∈ sTagAt fd us t tag fs i, 1 ≤ x.length := by
  induction fs generalizing i with
  | nil => intro x hx; simp [sTagAt] at hx
  | cons f r ih =>
    intro x hx
    simp only [sTagAt, List.mem_append] at hx
    rcases hx with hx | hx
    · split at hx
      · obtain rfl := List.mem_singleton.1 hx
        exact sWtag_pos _ _
      · simp at hx
    · exact ih _ x hx
theorem sTags_pos (fd : Fld → Tree → List UInt8) (us : Fld → Tree → Bool) (fs : List Fld) (t : Tree) : ∀ x ∈ sTags fd us fs t, 1 ≤ x.length := by
  intro x hx
  simp only [sTags, List.mem_append, List.mem_flatMap, List.mem_map] at hx
  rcases hx with ⟨tag, _, hx⟩ | ⟨u, _, rfl⟩
  · exact sTagAt_pos _ _ _ _ _ _ x hx
  · exact sWtag_pos _ _
theorem flat_le {l : List (List UInt8)} (h : ∀ x ∈ l, 1 ≤ x.length) : l.length ≤ l.flatten.length := by
  induction l with
  | nil => simp
  | cons a r ih =>
    have h1 := h a (by simp)
    have h2 := ih fun x hx => h x (by simp [hx])
    simp only [List.length_cons, List.flatten_cons, List.length_append]
    omega
theorem pre_le {P R T : List (List UInt8)} (h : P ++ R = T) : P.length ≤ T.length ∧ P.flatten.length + R.flatten.length = T.flatten.length := by
  subst h
  simp
theorem u64i (n : Nat) (h : n ≤ lim) : IntKind.u64.wrap (n : Int) = n := by rw [lim_eq] at h; exact u64w n (by omega)

theorem part_any {G : List (Nat × List UInt8) → Prop} (h0 : G []) (hU : UnkC G) (d : Nat) (hP : PartC G d) : PartC G (d + 1) := by
  intro w X v fs vs t ver flex hF hT hfs hok hlen
  have hT0 := hT
  obtain ⟨N, S, nl, L, U, v1, v2, v3, cells, hN, hS, hL, hUr, hr⟩ := hT
  have hGU : G U := by cases hok with | mk _ _ _ _ _ _ _ h _ => exact h
  have hFld := field_any hP
  have hUs := usual_all h0 hU d
  have htags := fsB_tags hfs
  obtain ⟨fd, hfd⟩ : ∃ fd, fd = sField (sPart d ver flex) ver flex := ⟨_, rfl⟩
  obtain ⟨us, hus⟩ : ∃ us, us = sUsual (d + 1) := ⟨_, rfl⟩
  have hpart : sPart (d + 1) ver flex fs (.mk N S nl L U) = if flex then sPlain fd ver (.mk N S nl L U) fs 0 ++ (uv (sTags fd us fs (.mk N S nl L U)).length ++ (sTags fd us fs (.mk N S nl L U)).flatten) else sPlain fd ver (.mk N S nl L U) fs 0 := by
    subst hfd hus
    cases flex <;> simp [sPart]
  rw [hpart] at hlen ⊢
  have fieldC : ∀ (w1 : World) (f : Fld) (sv : Value) (u : List Value) (t' : Tree), FRep w1 X sv f.sub → TRep w1 X u t' → fsB d f.sub = true → TOk G t' → (fd f t').length ≤ lim →
      Calls Tryz.prog 22 #[.agg (fldV f sv).toArray, .int .i64 ver, .bool flex, .agg u.toArray] w1 fun e w' => ∃ d', e = .returned d' ∧ Own w' w1.heap.size 5 d' (fd f t') ∧ Below w1.heap.size w1 w' := by
    subst hfd
    exact fun w1 f sv u t' a1 a2 a3 a4 a5 => hFld w1 X f sv u t' ver flex a1 a2 a3 a4 a5
  have usualC : ∀ (w1 : World) (f : Fld) (sv : Value) (u : List Value) (t' : Tree), FRep w1 X sv f.sub → TRep w1 X u t' → fsB d f.sub = true → TOk G t' →
      Calls Tryz.prog 25 #[.agg (fldV f sv).toArray, .agg u.toArray] w1 fun e w' => e = .returned (.bool (us f t')) ∧ Below w1.heap.size w1 w' := by
    subst hus
    exact fun w1 f sv u t' a1 a2 a3 a4 => hUs w1 X f sv u t' a1 a2 a3 a4
  clear hpart hfd hus
  have hF0 := hF
  obtain ⟨A, c, rfl⟩ := hF.form
  have hout : (sPlain fd ver (.mk N S nl L U) fs 0).length ≤ lim := by
    cases flex with
    | true => simp only [if_true, List.length_append] at hlen; omega
    | false => simpa using hlen
  refine calls_wk (args := [.slice A fs.length c, .int .i64 ver, .bool flex, .agg #[.int .i64 N, v1, .bool nl, v2, v3]]) Tryz.func13 rfl rfl ?_
  refine wk_seq ?_
  refine wk_reg (id := 0) ?_
  refine wk_box rfl rfl ?_
  refine wk_assign rfl rfl ?_
  refine wk_nil ?_
  refine wk_seq ?_
  refine wk_reg (id := 1) ?_
  refine wk_assign rfl rfl ?_
  refine wk_assign rfl rfl ?_
  refine wk_nil ?_
  refine wk_seq ?_
  refine wk_reg (id := 2) ?_
  refine wk_assign rfl rfl ?_
  refine wk_nil ?_
  refine wk_seq ?_
  refine wk_seq ?_
  refine wk_reg (id := 3) ?_
  refine wk_move rfl rfl ?_
  refine wk_slen rfl Tryz.underlying31 rfl ?_
  refine wk_move rfl rfl ?_
  refine wk_nil ?_
  refine wk_loop (fun i : Nat × Value × List UInt8 => [(0, .slice A fs.length c), (1, .int .i64 ver), (2, .bool flex), (7, .pointer (some ⟨w.heap.size, 0, none⟩)), (9, i.2.1), (10, .slice none 0 0), (11, .int .i64 0), (21, .slice A fs.length c), (22, .int .i64 (fs.length : Int)), (23, .int .i64 (i.1 : Int))])
    (fun i w' => i.1 ≤ fs.length ∧ i.2.2 ++ sPlain fd ver (.mk N S nl L U) (fs.drop i.1) i.1 = sPlain fd ver (.mk N S nl L U) fs 0 ∧ Own w' w.heap.size 5 i.2.1 i.2.2 ∧
      w'.heap[w.heap.size]? = some (.cells #[.int .i64 N, v1, .bool nl, v2, v3] 26 (0, 0)) ∧ Below w.heap.size w w') (fun i => fs.length - i.1) (0, .slice none 0 0, [])
    rfl ⟨Nat.zero_le _, rfl, own_nil _ _ _, heap_alloc_last _ _, below1 _ _⟩ ?_
  rintro ⟨i, d1, p⟩ w1 ⟨hi, hp, ho, hTw, hb⟩
  simp only at hi hp ho
  by_cases hlt : i < fs.length
  · have c2 : cmp .lss (i : Int) (fs.length : Int) = some true := by simp [cmp, hlt]
    obtain ⟨b, c2, sv2, e1, hbb, hsub, hcell⟩ := hF0.at hlt
    simp only [Value.slice.injEq] at e1
    obtain ⟨rfl, _, rfl⟩ := e1
    have hcell1 : ∀ j u, (fldV fs[i] sv2)[j]? = some u → w1.cell? ((⟨b, 0 + i * 8, none⟩ : Addr).add j) = some u := fun j u hj => (World.cell?_of_block (by rw [add_addr]; exact hb.block b hbb)).trans (hcell j u hj)
    have hnx : IntKind.i64.wrap ((i : Int) + 1) = ((i + 1 : Nat) : Int) := i64w ((i : Int) + 1) (by omega) (by omega)
    have hdrop : fs.drop i = fs[i] :: fs.drop (i + 1) := List.drop_eq_getElem_cons hlt
    rw [hdrop, sPlain] at hp
    refine wk_seq ?_
    refine wk_reg (id := 4) ?_
    refine wk_cmp rfl rfl (by with_reducible assumption) rfl ?_
    refine wk_nil ?_
    refine wk_seq ?_
    refine wk_condT rfl ?_
    refine wk_skip ?_
    refine wk_seq ?_
    refine wk_block ?_
    refine wk_seq ?_
    refine wk_reg (id := 5) ?_
    refine wk_move rfl rfl ?_
    refine wk_idx (i := Tryz.t46) rfl rfl Tryz.underlying31 (by kernel_rfl) hlt rfl ?_
    refine wk_loadA (i := Tryz.t46) rfl Tryz.underlying46 rfl (by kernel_rfl) (vs := fldV fs[i] sv2) rfl hcell1 rfl ?_
    refine wk_alloc (t := 46) (i := Tryz.t46) (by kernel_rfl) rfl rfl ?_
    refine wk_assign rfl rfl ?_
    refine wk_storeNew (i := Tryz.t46) rfl rfl (by kernel_rfl) rfl rfl (fldV_one hsub.one) ?_
    have hbn := below1 w1 (.cells (fldV fs[i] sv2).toArray 46)
    have hb2 := hb.trans (hbn.mono hb.size)
    have hG2 : (w1.alloc (.cells (fldV fs[i] sv2).toArray 46)).heap[w1.heap.size]? = some (.cells (fldV fs[i] sv2).toArray 46 (0, 0)) := heap_alloc_last _ _
    have hT2 := (hbn.block _ (lt_of_some hTw)).trans hTw
    have ho2 := ho.below hbn
    have hnxt : ∀ (d1 : Value), [some (Value.slice (some ⟨b, 0, none⟩) fs.length c), some (Value.int .i64 ver), some (Value.bool flex), some (Value.pointer (some ⟨w.heap.size, 0, none⟩)), some d1, some (Value.slice none 0 0), some (Value.int .i64 0), some (Value.slice (some ⟨b, 0, none⟩) fs.length c), some (Value.int .i64 (fs.length : Int)), some (Value.int .i64 (IntKind.i64.wrap ((i : Int) + 1)))] =
      [some (Value.slice (some ⟨b, 0, none⟩) fs.length c), some (Value.int .i64 ver), some (Value.bool flex), some (Value.pointer (some ⟨w.heap.size, 0, none⟩)), some d1, some (Value.slice none 0 0), some (Value.int .i64 0), some (Value.slice (some ⟨b, 0, none⟩) fs.length c), some (Value.int .i64 (fs.length : Int)), some (Value.int .i64 ((i + 1 : Nat) : Int))] := fun d1 => by rw [hnx]
    by_cases ht : fs[i].tag < 0
    · have c3 : cmp .lss fs[i].tag 0 = some true := by simp [cmp, ht]
      refine wk_nil ?_
      refine wk_seq ?_
      refine wk_reg (id := 6) ?_
      refine wk_field (f := 4) (i := Tryz.t3) rfl Tryz.underlying46 rfl (by kernel_rfl) (by decide) rfl ?_
      refine wk_load rfl Tryz.underlying3 rfl (by exact cell_blk (by with_reducible assumption) rfl) rfl ?_
      refine wk_cmp rfl rfl (by with_reducible assumption) rfl ?_
      refine wk_move rfl rfl ?_
      refine wk_gT rfl ?_; refine wk_loadA (i := Tryz.t46) rfl Tryz.underlying46 rfl (by kernel_rfl) rfl (by exact cells_blk (by with_reducible assumption)) rfl ?_
      refine wk_gT rfl ?_; refine wk_move rfl rfl ?_
      refine wk_gT rfl ?_
      refine wk_call Tryz.call21 (vs := [.agg (fldV fs[i] sv2).toArray, .int .i64 ver]) rfl rfl ((has_any _ fs[i] sv2 ver).mono ?_)
      rintro e w2 ⟨rfl, hbh⟩
      refine ⟨_, rfl, ?_⟩
      have hG3 := (hbh.block _ (lt_of_some hG2)).trans hG2
      have hT3 := (hbh.block _ (lt_of_some hT2)).trans hT2
      have ho3 := ho2.below hbh
      have hb3 := hb2.trans (hbh.mono hb2.size)
      cases hh : sHas fs[i] ver with
      | false =>
        refine wk_pick rfl rfl rfl rfl ?_
        refine wk_nil ?_
        refine wk_condF rfl ?_
        refine wk_skip ?_
        refine wk_blockEnd ?_
        refine wk_reg (id := 8) ?_
        refine wk_add rfl rfl rfl ?_
        refine wk_move rfl rfl ?_
        refine wk_nil ?_
        exact wk_loopNext (i + 1, d1, p) (by simp only; omega) (hnxt d1) ⟨by simp only; omega, by simpa [hh] using hp, ho3, hT3, hb3⟩
      | true =>
        have hpe : p ++ (fd fs[i] (sAt (.mk N S nl L U) i) ++ sPlain fd ver (.mk N S nl L U) (fs.drop (i + 1)) (i + 1)) = sPlain fd ver (.mk N S nl L U) fs 0 := by simpa [hh, ht] using hp
        have hple : p.length + (fd fs[i] (sAt (.mk N S nl L U) i)).length ≤ lim := by
          have := congrArg List.length hpe
          simp only [List.length_append] at this
          omega
        refine wk_pick rfl rfl rfl rfl ?_
        refine wk_nil ?_
        refine wk_condT rfl ?_
        skip
        refine wk_draw (fun w' => w'.heap[w1.heap.size]? = some (.cells (fldV fs[i] sv2).toArray 46 (0, 0)) ∧ w'.heap[w.heap.size]? = some (.cells #[.int .i64 N, v1, .bool nl, v2, v3] 26 (0, 0)))
          [(0, true), (1, true), (2, true), (3, true), (4, true), (5, true), (6, false), (7, false), (8, false), (9, true)] mixed (pqb (pql pq0)) (by kernel_rfl) (by kernel_rfl) (by kernel_rfl) (fun w5 h5 _ => ⟨by rw [h5]; exact hG3, by rw [h5]; exact hT3⟩) ?_
        intro w3 h3 hbd
        have ho4 := ho3.below hbd
        have hb4 := hb3.trans (hbd.mono hb3.size)
        have hG4 : w3.heap[w1.heap.size]? = some (.cells (fldV fs[i] sv2).toArray 46 (0, 0)) := by rw [h3]; exact hG3
        have hT4 : w3.heap[w.heap.size]? = some (.cells #[.int .i64 N, v1, .bool nl, v2, v3] 26 (0, 0)) := by rw [h3]; exact hT3
        refine wd_move rfl rfl rfl ?_
        refine wd_loadA (ti := Tryz.t46) rfl rfl Tryz.underlying46 rfl (by kernel_rfl) (vs := fldV fs[i] sv2) rfl (fun w' hS => cells_blk hS.1) rfl ?_
        refine wd_move rfl rfl rfl ?_
        refine wd_move rfl rfl rfl ?_
        refine wd_loadA (ti := Tryz.t26) rfl rfl Tryz.underlying26 rfl (by kernel_rfl) (vs := [.int .i64 N, v1, .bool nl, v2, v3]) rfl (fun w' hS => cells_blk hS.2) rfl ?_
        refine wd_move rfl rfl rfl ?_
        refine wd_call rfl Tryz.call23 (vs := [.agg #[.int .i64 N, v1, .bool nl, v2, v3], .int .i64 (i : Int)]) rfl rfl ((at_any w3 X [.int .i64 N, v1, .bool nl, v2, v3] (.mk N S nl L U) i (hT0.keep (keeps_below hb4 (Nat.le_refl _)))).mono ?_)
        rintro e w4 ⟨ua, rfl, hua, hbe⟩
        have hG5 := (hbe.block _ (lt_of_some hG4)).trans hG4
        have hT5 := (hbe.block _ (lt_of_some hT4)).trans hT4
        have ho5 := ho4.below hbe
        have hb5 := hb4.trans (hbe.mono hb4.size)
        refine ⟨_, rfl, ⟨hG5, hT5⟩, ?_⟩
        refine wd_call rfl Tryz.call22 (vs := [.agg (fldV fs[i] sv2).toArray, .int .i64 ver, .bool flex, .agg ua.toArray]) rfl rfl ((fieldC w4 fs[i] sv2 ua (sAt (.mk N S nl L U) i) (hsub.keep (keeps_below hb5 (Nat.le_refl _))) hua (fsB_sub hfs (List.getElem_mem hlt)) (hok.at h0 i) (by omega)).mono ?_)
        rintro e w5 ⟨d5, rfl, hod, hbf⟩
        have hG6 := (hbf.block _ (lt_of_some hG5)).trans hG5
        have hT6 := (hbf.block _ (lt_of_some hT5)).trans hT5
        have ho6 := ho5.below hbf
        have hb6 := hb5.trans (hbf.mono hb5.size)
        refine ⟨_, rfl, ⟨hG6, hT6⟩, ?_⟩
        have hv6 : BytesRep0 w5 (fun _ => False) d5 (fd fs[i] (sAt (.mk N S nl L U) i)) := (OwnC.of_own hod).bytes (fun _ _ _ h => h)
        refine wd_append (R := fun d' w' => Own w' w.heap.size 5 d' (p ++ fd fs[i] (sAt (.mk N S nl L U) i)) ∧ w'.heap[w.heap.size]? = some (.cells #[.int .i64 N, v1, .bool nl, v2, v3] 26 (0, 0)) ∧ Below w.heap.size w w') rfl rfl rfl ?_ rfl ?_
        · intro ρ oo hop hx hy
          obtain ⟨d7, w7, a1, a2, a3⟩ := run_append_rep byteT hop hx hy hv6 ho6 hb6.size hple
          have hT7 := grown_other ho6 a3 hT6 (by decide)
          exact ⟨d7, w7, a1, ⟨grown_other ho6 a3 hG6 (by decide), hT7⟩, a2, hT7, hb6.trans (below_of_grown ho6 hb6.size a3)⟩
        rintro d7 w7 ⟨ho7, hT7, hb7⟩
        refine wd_assign rfl rfl rfl ?_
        refine wd_done ?_
        refine wk_blockEnd ?_
        refine wk_reg (id := 8) ?_
        refine wk_add rfl rfl rfl ?_
        refine wk_move rfl rfl ?_
        refine wk_nil ?_
        exact wk_loopNext (i + 1, d7, p ++ fd fs[i] (sAt (.mk N S nl L U) i)) (by simp only; omega) (hnxt d7) ⟨by simp only; omega, by simp only [List.append_assoc]; exact hpe, ho7, hT7, hb7⟩
    · have c3 : cmp .lss fs[i].tag 0 = some false := by simp [cmp]; omega
      refine wk_nil ?_
      refine wk_seq ?_
      refine wk_reg (id := 6) ?_
      refine wk_field (f := 4) (i := Tryz.t3) rfl Tryz.underlying46 rfl (by kernel_rfl) (by decide) rfl ?_
      refine wk_load rfl Tryz.underlying3 rfl (by exact cell_blk (by with_reducible assumption) rfl) rfl ?_
      refine wk_cmp rfl rfl (by with_reducible assumption) rfl ?_
      refine wk_move rfl rfl ?_
      refine wk_gF rfl rfl ?_
      refine wk_gF rfl rfl ?_
      refine wk_gF rfl rfl ?_
      refine wk_pick rfl rfl rfl rfl ?_
      refine wk_nil ?_
      refine wk_condF rfl ?_
      refine wk_skip ?_
      refine wk_blockEnd ?_
      refine wk_reg (id := 8) ?_
      refine wk_add rfl rfl rfl ?_
      refine wk_move rfl rfl ?_
      refine wk_nil ?_
      exact wk_loopNext (i + 1, d1, p) (by simp only; omega) (hnxt d1) ⟨by simp only; omega, by simpa [ht] using hp, ho2, hT2, hb2⟩
  have c2 : cmp .lss (i : Int) (fs.length : Int) = some false := by simp [cmp]; omega
  rw [List.drop_of_length_le (by omega), sPlain, List.append_nil] at hp
  subst hp
  refine wk_seq ?_
  refine wk_reg (id := 4) ?_
  refine wk_cmp rfl rfl (by with_reducible assumption) rfl ?_
  refine wk_nil ?_
  refine wk_seq ?_
  refine wk_condF rfl ?_
  refine wk_loopExit ?_
  refine wk_seq ?_
  refine wk_seq ?_
  refine wk_reg (id := 9) ?_
  refine wk_move rfl rfl ?_
  refine wk_not rfl rfl ?_
  refine wk_nil ?_
  cases flex with
  | false =>
    refine wk_condT rfl ?_
    refine wk_seq ?_
    refine wk_reg (id := 10) ?_
    refine wk_move rfl rfl ?_
    refine wk_assign rfl rfl ?_
    refine wk_nil ?_
    exact wk_ret r0 rfl rfl ⟨d1, rfl, ho, hb⟩
  | true =>
    refine wk_condF rfl ?_
    refine wk_skip ?_
    refine wk_seq ?_
    refine wk_seq ?_
    refine wk_reg (id := 11) ?_
    refine wk_move rfl rfl ?_
    refine wk_call Tryz.call24 (vs := [.slice A fs.length c]) rfl rfl ((known_any w1 X _ fs (hF0.keep (keeps_below hb (Nat.le_refl _))) htags.1 htags.2).mono ?_)
    rintro e wa ⟨rfl, hba⟩
    refine ⟨_, rfl, ?_⟩
    have hK := sKnown_le htags.1
    have eK : IntKind.i64.wrap (sKnown fs : Int) = (sKnown fs : Nat) := i64w _ (by omega) (by omega)
    have hoA := ho.below hba
    have hTA := (hba.block _ (lt_of_some hTw)).trans hTw
    have hbA := hb.trans (hba.mono hb.size)
    have hBA : w.heap.size < wa.heap.size := lt_of_some hTA
    simp only [if_true, List.length_append] at hlen
    have hcnt : (sTags fd us fs (.mk N S nl L U)).length ≤ lim := Nat.le_trans (flat_le (sTags_pos fd us fs _)) (by omega)
    have hflat : (sTags fd us fs (.mk N S nl L U)).flatten.length ≤ lim := by omega
    obtain ⟨TL, hTL⟩ : ∃ TL, TL = sTags fd us fs (.mk N S nl L U) := ⟨_, rfl⟩
    have hTL' : TL = (List.range (sKnown fs)).flatMap (fun tag => sTagAt fd us (.mk N S nl L U) tag fs 0) ++ (sUnknown fs U).map fun u => sWtag (u.2.take 32767) u.1 := hTL
    rw [← hTL] at hcnt hflat hlen ⊢
    clear hTL
    have hcl : TL.length ≤ 1099511627776 := by rw [lim_eq] at hcnt; exact hcnt
    refine wk_conv rfl Tryz.underlying53 Tryz.underlying3 rfl ?_
    refine wk_move rfl rfl ?_
    refine wk_nil ?_
    refine wk_loop (fun i : Nat × Value × List (List UInt8) => [(0, .slice A fs.length c), (1, .int .i64 ver), (2, .bool true), (7, .pointer (some ⟨w.heap.size, 0, none⟩)), (9, d1), (10, i.2.1), (11, .int .i64 (i.2.2.length : Int)), (51, .int .i64 (sKnown fs : Int)), (52, .int .i64 (i.1 : Int))])
      (fun i w' => i.1 ≤ sKnown fs ∧ i.2.2 ++ (List.range' i.1 (sKnown fs - i.1)).flatMap (fun tag => sTagAt fd us (.mk N S nl L U) tag fs 0) = (List.range (sKnown fs)).flatMap (fun tag => sTagAt fd us (.mk N S nl L U) tag fs 0) ∧
        Own w' wa.heap.size 5 i.2.1 i.2.2.flatten ∧ Below wa.heap.size wa w') (fun i => sKnown fs - i.1) (0, .slice none 0 0, [])
      (congrArg (fun z => [some (Value.slice A fs.length c), some (Value.int .i64 ver), some (Value.bool true), some (Value.pointer (some ⟨w.heap.size, 0, none⟩)), some d1, some (Value.slice none 0 0), some (Value.int .i64 0), some (Value.int .i64 z), some (Value.int .i64 0)]) eK)
      ⟨Nat.zero_le _, by simp [List.range_eq_range'], own_nil _ _ _, Below.refl _ _⟩ ?_
    rintro ⟨g, d2, P⟩ w2 ⟨hg, hP2, ho2, hb2⟩
    simp only at hg hP2 ho2
    by_cases hlg : g < sKnown fs
    · have c3 : cmp .lss (g : Int) (sKnown fs : Int) = some true := by simp [cmp, hlg]
      have hnx : IntKind.i64.wrap ((g : Int) + 1) = ((g + 1 : Nat) : Int) := i64w ((g : Int) + 1) (by omega) (by omega)
      rw [show sKnown fs - g = (sKnown fs - (g + 1)) + 1 from by omega, List.range'_succ, List.flatMap_cons] at hP2
      refine wk_seq ?_
      refine wk_reg (id := 12) ?_
      refine wk_cmp rfl rfl (by with_reducible assumption) rfl ?_
      refine wk_nil ?_
      refine wk_seq ?_
      refine wk_condT rfl ?_
      refine wk_skip ?_
      refine wk_seq ?_
      refine wk_block ?_
      refine wk_seq ?_
      refine wk_reg (id := 13) ?_
      refine wk_move rfl rfl ?_
      refine wk_assign rfl rfl ?_
      refine wk_nil ?_
      refine wk_seq ?_
      refine wk_reg (id := 14) ?_
      refine wk_move rfl rfl ?_
      refine wk_slen rfl Tryz.underlying31 rfl ?_
      refine wk_move rfl rfl ?_
      refine wk_nil ?_
      refine wk_loop (fun i : Nat × Value × List (List UInt8) => [(0, .slice A fs.length c), (1, .int .i64 ver), (2, .bool true), (7, .pointer (some ⟨w.heap.size, 0, none⟩)), (9, d1), (10, i.2.1), (11, .int .i64 (i.2.2.length : Int)), (14, .int .i64 (g : Int)), (51, .int .i64 (sKnown fs : Int)), (52, .int .i64 (g : Int)), (55, .slice A fs.length c), (56, .int .i64 (fs.length : Int)), (57, .int .i64 (i.1 : Int))])
        (fun i w' => i.1 ≤ fs.length ∧ i.2.2 ++ sTagAt fd us (.mk N S nl L U) g (fs.drop i.1) i.1 = P ++ sTagAt fd us (.mk N S nl L U) g fs 0 ∧
          Own w' wa.heap.size 5 i.2.1 i.2.2.flatten ∧ Below wa.heap.size wa w') (fun i => fs.length - i.1) (0, d2, P)
        rfl ⟨Nat.zero_le _, rfl, ho2, hb2⟩ ?_
      rintro ⟨j, d3, P3⟩ w3 ⟨hj, hP3, ho3, hb3⟩
      simp only at hj hP3 ho3
      have hbW3 : Below w.heap.size w w3 := hbA.trans (hb3.mono (Nat.le_of_lt hBA))
      have hT3 : w3.heap[w.heap.size]? = some (.cells #[.int .i64 N, v1, .bool nl, v2, v3] 26 (0, 0)) := (hb3.block _ hBA).trans hTA
      by_cases hlj : j < fs.length
      · have c4 : cmp .lss (j : Int) (fs.length : Int) = some true := by simp [cmp, hlj]
        obtain ⟨b, c5, sv3, e1, hbb, hsub, hcell⟩ := hF0.at hlj
        simp only [Value.slice.injEq] at e1
        obtain ⟨rfl, _, rfl⟩ := e1
        have hcell3 : ∀ k u, (fldV fs[j] sv3)[k]? = some u → w3.cell? ((⟨b, 0 + j * 8, none⟩ : Addr).add k) = some u := fun k u hk => (World.cell?_of_block (by rw [add_addr]; exact hbW3.block b hbb)).trans (hcell k u hk)
        have hnj : IntKind.i64.wrap ((j : Int) + 1) = ((j + 1 : Nat) : Int) := i64w ((j : Int) + 1) (by omega) (by omega)
        have hdrop : fs.drop j = fs[j] :: fs.drop (j + 1) := List.drop_eq_getElem_cons hlj
        rw [hdrop, sTagAt] at hP3
        have hnxt : ∀ (dd : Value) (n : Int), [some (Value.slice (some ⟨b, 0, none⟩) fs.length c), some (Value.int .i64 ver), some (Value.bool true), some (Value.pointer (some ⟨w.heap.size, 0, none⟩)), some d1, some dd, some (Value.int .i64 n), some (Value.int .i64 (g : Int)), some (Value.int .i64 (sKnown fs : Int)), some (Value.int .i64 (g : Int)), some (Value.slice (some ⟨b, 0, none⟩) fs.length c), some (Value.int .i64 (fs.length : Int)), some (Value.int .i64 (IntKind.i64.wrap ((j : Int) + 1)))] =
          [some (Value.slice (some ⟨b, 0, none⟩) fs.length c), some (Value.int .i64 ver), some (Value.bool true), some (Value.pointer (some ⟨w.heap.size, 0, none⟩)), some d1, some dd, some (Value.int .i64 n), some (Value.int .i64 (g : Int)), some (Value.int .i64 (sKnown fs : Int)), some (Value.int .i64 (g : Int)), some (Value.slice (some ⟨b, 0, none⟩) fs.length c), some (Value.int .i64 (fs.length : Int)), some (Value.int .i64 ((j + 1 : Nat) : Int))] := fun dd n => by rw [hnj]
        refine wk_seq ?_
        refine wk_reg (id := 15) ?_
        refine wk_cmp rfl rfl (by with_reducible assumption) rfl ?_
        refine wk_nil ?_
        refine wk_seq ?_
        refine wk_condT rfl ?_
        refine wk_skip ?_
        refine wk_seq ?_
        refine wk_block ?_
        refine wk_seq ?_
        refine wk_reg (id := 16) ?_
        refine wk_move rfl rfl ?_
        refine wk_idx (i := Tryz.t46) rfl rfl Tryz.underlying31 (by kernel_rfl) hlj rfl ?_
        refine wk_loadA (i := Tryz.t46) rfl Tryz.underlying46 rfl (by kernel_rfl) (vs := fldV fs[j] sv3) rfl hcell3 rfl ?_
        refine wk_alloc (t := 46) (i := Tryz.t46) (by kernel_rfl) rfl rfl ?_
        refine wk_assign rfl rfl ?_
        refine wk_storeNew (i := Tryz.t46) rfl rfl (by kernel_rfl) rfl rfl (fldV_one hsub.one) ?_
        have hbn := below1 w3 (.cells (fldV fs[j] sv3).toArray 46)
        have hG4 : (w3.alloc (.cells (fldV fs[j] sv3).toArray 46)).heap[w3.heap.size]? = some (.cells (fldV fs[j] sv3).toArray 46 (0, 0)) := heap_alloc_last _ _
        have hT4 := (hbn.block _ (lt_of_some hT3)).trans hT3
        have ho4 := ho3.below hbn
        have hb4 := hb3.trans (hbn.mono hb3.size)
        refine wk_nil ?_
        refine wk_seq ?_
        refine wk_draw (fun w' => w'.heap[w3.heap.size]? = some (.cells (fldV fs[j] sv3).toArray 46 (0, 0)) ∧ w'.heap[w.heap.size]? = some (.cells #[.int .i64 N, v1, .bool nl, v2, v3] 26 (0, 0)))
          [(0, true), (1, true), (2, true), (3, true), (4, true), (5, true), (6, true), (7, true), (8, false), (9, false), (10, true), (11, true)] mixed (pqb (pql (pqb (pql pq0)))) (by kernel_rfl) (by kernel_rfl) (by kernel_rfl) (fun w5 h5 _ => ⟨by rw [h5]; exact hG4, by rw [h5]; exact hT4⟩) ?_
        intro w5 h5 hbd
        have hG5 : w5.heap[w3.heap.size]? = some (.cells (fldV fs[j] sv3).toArray 46 (0, 0)) := by rw [h5]; exact hG4
        have hT5 : w5.heap[w.heap.size]? = some (.cells #[.int .i64 N, v1, .bool nl, v2, v3] 26 (0, 0)) := by rw [h5]; exact hT4
        have ho5 := ho4.below hbd
        have hb5 := hb4.trans (hbd.mono hb4.size)
        have hbW5 := hbA.trans (hb5.mono (Nat.le_of_lt hBA))
        refine wd_field (f := 4) (ti := Tryz.t3) rfl rfl Tryz.underlying46 rfl (by kernel_rfl) (by decide) rfl ?_
        refine wd_load rfl rfl Tryz.underlying3 rfl (fun _ hS => cell_blk hS.1 rfl) rfl ?_
        by_cases htg : fs[j].tag = (g : Int)
        · have c6 : cmp .eql fs[j].tag (g : Int) = some true := by simp [cmp, htg]
          refine wd_move rfl rfl rfl ?_
          refine wd_cmp rfl rfl rfl (by with_reducible assumption) rfl ?_
          refine wd_move rfl rfl rfl ?_
          refine wd_loadA (ti := Tryz.t46) rfl rfl Tryz.underlying46 rfl (by kernel_rfl) (vs := fldV fs[j] sv3) rfl (fun w' hS => cells_blk hS.1) rfl ?_
          refine wd_loadA (ti := Tryz.t26) rfl rfl Tryz.underlying26 rfl (by kernel_rfl) (vs := [.int .i64 N, v1, .bool nl, v2, v3]) rfl (fun w' hS => cells_blk hS.2) rfl ?_
          refine wd_move rfl rfl rfl ?_
          refine wd_call rfl Tryz.call23 (vs := [.agg #[.int .i64 N, v1, .bool nl, v2, v3], .int .i64 (j : Int)]) rfl rfl ((at_any w5 X [.int .i64 N, v1, .bool nl, v2, v3] (.mk N S nl L U) j (hT0.keep (keeps_below hbW5 (Nat.le_refl _)))).mono ?_)
          rintro e w6 ⟨ua, rfl, hua, hbe⟩
          have hG6 := (hbe.block _ (lt_of_some hG5)).trans hG5
          have hT6 := (hbe.block _ (lt_of_some hT5)).trans hT5
          have ho6 := ho5.below hbe
          have hb6 := hb5.trans (hbe.mono hb5.size)
          have hbW6 := hbA.trans (hb6.mono (Nat.le_of_lt hBA))
          refine ⟨_, rfl, ⟨hG6, hT6⟩, ?_⟩
          refine wd_call rfl Tryz.call25 (vs := [.agg (fldV fs[j] sv3).toArray, .agg ua.toArray]) rfl rfl ((usualC w6 fs[j] sv3 ua (sAt (.mk N S nl L U) j) (hsub.keep (keeps_below hbW6 (Nat.le_refl _))) hua (fsB_sub hfs (List.getElem_mem hlj)) (hok.at h0 j)).mono ?_)
          rintro e w7 ⟨rfl, hbf⟩
          have hG7 := (hbf.block _ (lt_of_some hG6)).trans hG6
          have hT7 := (hbf.block _ (lt_of_some hT6)).trans hT6
          have ho7 := ho6.below hbf
          have hb7 := hb6.trans (hbf.mono hb6.size)
          have hbW7 := hbA.trans (hb7.mono (Nat.le_of_lt hBA))
          refine ⟨_, rfl, ⟨hG7, hT7⟩, ?_⟩
          refine wd_not rfl rfl rfl ?_
          refine wd_pick rfl rfl rfl rfl rfl ?_
          refine wd_done ?_
          cases hx : us fs[j] (sAt (.mk N S nl L U) j) with
          | true =>
            refine wk_condF rfl ?_
            refine wk_skip ?_
            refine wk_blockEnd ?_
            refine wk_reg (id := 21) ?_
            refine wk_add rfl rfl rfl ?_
            refine wk_move rfl rfl ?_
            refine wk_nil ?_
            exact wk_loopNext (j + 1, d3, P3) (by simp only; omega) (hnxt d3 _) ⟨by simp only; omega, by simpa [hx] using hP3, ho7, hb7⟩
          | false =>
            have hP3' : P3 ++ (sWtag (fd fs[j] (sAt (.mk N S nl L U) j)) g :: sTagAt fd us (.mk N S nl L U) g (fs.drop (j + 1)) (j + 1)) = P ++ sTagAt fd us (.mk N S nl L U) g fs 0 := by simpa [hx, htg] using hP3
            have hpre : (P3 ++ [sWtag (fd fs[j] (sAt (.mk N S nl L U) j)) g]) ++ (sTagAt fd us (.mk N S nl L U) g (fs.drop (j + 1)) (j + 1) ++ ((List.range' (g + 1) (sKnown fs - (g + 1))).flatMap (fun tag => sTagAt fd us (.mk N S nl L U) tag fs 0) ++ (sUnknown fs U).map fun u => sWtag (u.2.take 32767) u.1)) = TL := by
              rw [hTL', ← hP2, ← List.append_assoc P, ← hP3']
              simp only [List.append_assoc, List.cons_append, List.nil_append]
            obtain ⟨hl1, hl2⟩ := pre_le hpre
            simp only [List.length_append, List.flatten_append, List.flatten_cons, List.flatten_nil, List.append_nil, List.length_cons, List.length_nil] at hl1 hl2
            have hl3 : (sWtag (fd fs[j] (sAt (.mk N S nl L U) j)) g).length = (uv g).length + ((uv (fd fs[j] (sAt (.mk N S nl L U) j)).length).length + (fd fs[j] (sAt (.mk N S nl L U) j)).length) := by simp [sWtag]
            refine wk_condT rfl ?_
            refine wk_seq ?_
            refine wk_draw (fun w' => w'.heap[w3.heap.size]? = some (.cells (fldV fs[j] sv3).toArray 46 (0, 0)) ∧ w'.heap[w.heap.size]? = some (.cells #[.int .i64 N, v1, .bool nl, v2, v3] 26 (0, 0)))
              [(0, true), (1, true), (2, true), (3, true), (4, true), (5, false), (6, false), (7, true)] mixed (pqb (pql (pqb (pql pq0)))) (by kernel_rfl) (by kernel_rfl) (by kernel_rfl) (fun w8 h8 _ => ⟨by rw [h8]; exact hG7, by rw [h8]; exact hT7⟩) ?_
            intro w8 h8 hbg
            have hG8 : w8.heap[w3.heap.size]? = some (.cells (fldV fs[j] sv3).toArray 46 (0, 0)) := by rw [h8]; exact hG7
            have hT8 : w8.heap[w.heap.size]? = some (.cells #[.int .i64 N, v1, .bool nl, v2, v3] 26 (0, 0)) := by rw [h8]; exact hT7
            have ho8 := ho7.below hbg
            have hb8 := hb7.trans (hbg.mono hb7.size)
            have hbW8 := hbA.trans (hb8.mono (Nat.le_of_lt hBA))
            refine wd_loadA (ti := Tryz.t46) rfl rfl Tryz.underlying46 rfl (by kernel_rfl) (vs := fldV fs[j] sv3) rfl (fun w' hS => cells_blk hS.1) rfl ?_
            refine wd_move rfl rfl rfl ?_
            refine wd_move rfl rfl rfl ?_
            refine wd_loadA (ti := Tryz.t26) rfl rfl Tryz.underlying26 rfl (by kernel_rfl) (vs := [.int .i64 N, v1, .bool nl, v2, v3]) rfl (fun w' hS => cells_blk hS.2) rfl ?_
            refine wd_move rfl rfl rfl ?_
            refine wd_call rfl Tryz.call23 (vs := [.agg #[.int .i64 N, v1, .bool nl, v2, v3], .int .i64 (j : Int)]) rfl rfl ((at_any w8 X [.int .i64 N, v1, .bool nl, v2, v3] (.mk N S nl L U) j (hT0.keep (keeps_below hbW8 (Nat.le_refl _)))).mono ?_)
            rintro e w9 ⟨ub, rfl, hub, hbh⟩
            have hG9 := (hbh.block _ (lt_of_some hG8)).trans hG8
            have hT9 := (hbh.block _ (lt_of_some hT8)).trans hT8
            have ho9 := ho8.below hbh
            have hb9 := hb8.trans (hbh.mono hb8.size)
            have hbW9 := hbA.trans (hb9.mono (Nat.le_of_lt hBA))
            refine ⟨_, rfl, ⟨hG9, hT9⟩, ?_⟩
            refine wd_call rfl Tryz.call22 (vs := [.agg (fldV fs[j] sv3).toArray, .int .i64 ver, .bool true, .agg ub.toArray]) rfl rfl ((fieldC w9 fs[j] sv3 ub (sAt (.mk N S nl L U) j) (hsub.keep (keeps_below hbW9 (Nat.le_refl _))) hub (fsB_sub hfs (List.getElem_mem hlj)) (hok.at h0 j) (by omega)).mono ?_)
            rintro e wf ⟨df, rfl, hof, hbi⟩
            have hTf := (hbi.block _ (lt_of_some hT9)).trans hT9
            have hbf' := hb9.trans (hbi.mono hb9.size)
            refine ⟨_, rfl, ⟨(hbi.block _ (lt_of_some hG9)).trans hG9, hTf⟩, ?_⟩
            -- where the tags lie, and where not
            have hOf : OwnB wf (fun b => (wa.heap.size ≤ b ∧ b < w9.heap.size) ∨ wf.heap.size ≤ b) 5 d3 P3.flatten := own_in ho9 hbi
            have hvf : BytesRep0 wf (fun b => (wa.heap.size ≤ b ∧ b < w9.heap.size) ∨ wf.heap.size ≤ b) df (fd fs[j] (sAt (.mk N S nl L U) j)) := (OwnC.of_own hof).bytes (fun b h1 h2 h3 => by rcases h3 with h3 | h3 <;> omega)
            generalize hX0 : (fun b => (wa.heap.size ≤ b ∧ b < w9.heap.size) ∨ wf.heap.size ≤ b) = X0 at hOf hvf
            have hXb : ∀ b, X0 b → wa.heap.size ≤ b := by
              subst hX0
              have := hbf'.size
              rintro b (h | h) <;> omega
            have hXf : ∀ b, wf.heap.size ≤ b → X0 b := by subst hX0; exact fun b h => .inr h
            obtain ⟨Af, cf, rfl, _⟩ := hvf.form
            have eg : IntKind.u64.wrap (g : Int) = (g : Nat) := u64w g (by omega)
            have el : IntKind.u64.wrap ((fd fs[j] (sAt (.mk N S nl L U) j)).length : Int) = ((fd fs[j] (sAt (.mk N S nl L U) j)).length : Nat) := u64i _ (by omega)
            have hflt : (fd fs[j] (sAt (.mk N S nl L U) j)).length ≤ 1099511627776 := by rw [lim_eq] at hflat; omega
            refine wd_assign rfl rfl rfl ?_
            refine wd_done ?_
            refine wk_seq ?_
            refine wk_reg (id := 19) ?_
            refine wk_move rfl rfl ?_
            refine wk_move rfl rfl ?_
            refine wk_conv rfl Tryz.underlying3 Tryz.underlying73 rfl ?_
            refine wk_call Tryz.call26 (vs := [.int .u64 (g : Int)]) (congrArg (fun z => [some (Value.int .u64 z)]) eg) rfl ((SUvarint_any wf g (by omega)).mono ?_)
            rintro e wg ⟨dg, rfl, hog, hbk⟩
            refine ⟨_, rfl, ?_⟩
            have kk := keeps_below (X := fun _ => False) hbk (Nat.le_refl _)
            have hOg := OwnC.keep hOf kk (fun _ _ _ h => h)
            have hvg := hvf.keep (keeps_below hbk (Nat.le_refl _))
            have hbg2 := hbf'.trans (hbk.mono hbf'.size)
            have hug : BytesRep0 wg (fun _ => False) dg (uv g) := (OwnC.of_own hog).bytes (fun _ _ _ h => h)
            skip
            refine wk_appendR rfl rfl (app_inB byteT (fun b h => hXf b (Nat.le_trans hbk.size h)) hXb hbg2.size hug hOg (by omega)) rfl ?_
            rintro dh wh ⟨hOh, hkh, hbl⟩
            have hvh := hvg.keep hkh
            have hbh2 := hbg2.trans (hbl.mono (Nat.le_refl _))
            refine wk_move rfl rfl ?_
            refine wk_slen rfl Tryz.underlying22 rfl ?_
            refine wk_conv rfl Tryz.underlying3 Tryz.underlying73 rfl ?_
            refine wk_call Tryz.call26 (vs := [.int .u64 ((fd fs[j] (sAt (.mk N S nl L U) j)).length : Int)]) (congrArg (fun z => [some (Value.int .u64 z)]) el) rfl ((SUvarint_any wh _ (by omega)).mono ?_)
            rintro e wi ⟨di, rfl, hoi, hbm⟩
            refine ⟨_, rfl, ?_⟩
            have hOi := OwnC.keep hOh (keeps_below (X := fun _ => False) hbm (Nat.le_refl _)) (fun _ _ _ h => h)
            have hvi := hvh.keep (keeps_below hbm (Nat.le_refl _))
            have hbi2 := hbh2.trans (hbm.mono hbh2.size)
            have hui : BytesRep0 wi (fun _ => False) di (uv (fd fs[j] (sAt (.mk N S nl L U) j)).length) := (OwnC.of_own hoi).bytes (fun _ _ _ h => h)
            have hszi : wf.heap.size ≤ wi.heap.size := Nat.le_trans hbk.size (Nat.le_trans hkh.1 hbm.size)
            skip
            refine wk_appendR rfl rfl (app_inB byteT (fun b h => hXf b (Nat.le_trans hszi h)) hXb hbi2.size hui hOi (by rw [List.length_append]; omega)) rfl ?_
            rintro dj wj ⟨hOj, hkj, hbn2⟩
            have hvj := hvi.keep hkj
            have hbj2 := hbi2.trans hbn2
            have hszj : wf.heap.size ≤ wj.heap.size := Nat.le_trans hszi hkj.1
            refine wk_move rfl rfl ?_
            refine wk_appendR rfl rfl (app_inB byteT (fun b h => hXf b (Nat.le_trans hszj h)) hXb hbj2.size hvj hOj (by simp only [List.length_append]; omega)) rfl ?_
            rintro dk wk' ⟨hOk, hkk, hbo⟩
            have hbk2 := hbj2.trans hbo
            have ecnt : IntKind.i64.wrap ((P3.length : Int) + 1) = ((P3 ++ [sWtag (fd fs[j] (sAt (.mk N S nl L U) j)) g]).length : Nat) := (i64w _ (by omega) (by omega)).trans (by simp)
            have hfl : (P3 ++ [sWtag (fd fs[j] (sAt (.mk N S nl L U) j)) g]).flatten = P3.flatten ++ uv g ++ uv (fd fs[j] (sAt (.mk N S nl L U) j)).length ++ fd fs[j] (sAt (.mk N S nl L U) j) := by
              simp [sWtag]
            refine wk_assign rfl rfl ?_
            refine wk_nil ?_
            refine wk_reg (id := 20) ?_
            refine wk_move rfl rfl ?_
            refine wk_add rfl rfl rfl ?_
            refine wk_assign rfl rfl ?_
            refine wk_nil ?_
            refine wk_blockEnd ?_
            refine wk_reg (id := 21) ?_
            refine wk_add rfl rfl rfl ?_
            refine wk_move rfl rfl ?_
            refine wk_nil ?_
            refine wk_loopNext (j + 1, dk, P3 ++ [sWtag (fd fs[j] (sAt (.mk N S nl L U) j)) g]) (by simp only; omega) ((hnxt dk _).trans
              (congrArg (fun z => [some (Value.slice (some ⟨b, 0, none⟩) fs.length c), some (Value.int .i64 ver), some (Value.bool true), some (Value.pointer (some ⟨w.heap.size, 0, none⟩)), some d1, some dk, some (Value.int .i64 z), some (Value.int .i64 (g : Int)), some (Value.int .i64 (sKnown fs : Int)), some (Value.int .i64 (g : Int)), some (Value.slice (some ⟨b, 0, none⟩) fs.length c), some (Value.int .i64 (fs.length : Int)), some (Value.int .i64 ((j + 1 : Nat) : Int))]) ecnt))
              ⟨by simp only; omega, by simp only [List.append_assoc, List.singleton_append]; exact hP3', ?_, hbk2⟩
            show Own wk' wa.heap.size 5 dk (P3 ++ [sWtag (fd fs[j] (sAt (.mk N S nl L U) j)) g]).flatten
            rw [hfl]
            exact OwnC.to_own hOk hXb
        · have c6 : cmp .eql fs[j].tag (g : Int) = some false := by simp [cmp, htg]
          refine wd_move rfl rfl rfl ?_
          refine wd_cmp rfl rfl rfl (by with_reducible assumption) rfl ?_
          refine wd_move rfl rfl rfl ?_
          refine wd_skip rfl rfl ?_
          refine wd_skip rfl rfl ?_
          refine wd_skip rfl rfl ?_
          refine wd_skip1 rfl rfl ?_
          refine wd_skip1 rfl rfl ?_
          refine wd_skip rfl rfl ?_
          refine wd_pick rfl rfl rfl rfl rfl ?_
          refine wd_done ?_
          refine wk_condF rfl ?_
          refine wk_skip ?_
          refine wk_blockEnd ?_
          refine wk_reg (id := 21) ?_
          refine wk_add rfl rfl rfl ?_
          refine wk_move rfl rfl ?_
          refine wk_nil ?_
          exact wk_loopNext (j + 1, d3, P3) (by simp only; omega) (hnxt d3 _) ⟨by simp only; omega, by simpa [htg] using hP3, ho5, hb5⟩
      · have c4 : cmp .lss (j : Int) (fs.length : Int) = some false := by simp [cmp]; omega
        rw [List.drop_of_length_le (by omega), sTagAt, List.append_nil] at hP3
        refine wk_seq ?_
        refine wk_reg (id := 15) ?_
        refine wk_cmp rfl rfl (by with_reducible assumption) rfl ?_
        refine wk_nil ?_
        refine wk_seq ?_
        refine wk_condF rfl ?_
        refine wk_loopExit ?_
        skip
        refine wk_blockEnd ?_
        refine wk_reg (id := 22) ?_
        refine wk_add rfl rfl rfl ?_
        refine wk_move rfl rfl ?_
        refine wk_nil ?_
        exact wk_loopNext (g + 1, d3, P3) (by simp only; omega)
          (congrArg (fun z => [some (Value.slice A fs.length c), some (Value.int .i64 ver), some (Value.bool true), some (Value.pointer (some ⟨w.heap.size, 0, none⟩)), some d1, some d3, some (Value.int .i64 (P3.length : Int)), some (Value.int .i64 (sKnown fs : Int)), some (Value.int .i64 z)]) hnx)
          ⟨by simp only; omega, by simp only; rw [hP3, List.append_assoc]; exact hP2, ho3, hb3⟩
    · have c3 : cmp .lss (g : Int) (sKnown fs : Int) = some false := by simp [cmp]; omega
      rw [show sKnown fs - g = 0 from by omega, List.range'_zero, List.flatMap_nil, List.append_nil] at hP2
      refine wk_seq ?_
      refine wk_reg (id := 12) ?_
      refine wk_cmp rfl rfl (by with_reducible assumption) rfl ?_
      refine wk_nil ?_
      refine wk_seq ?_
      refine wk_condF rfl ?_
      refine wk_loopExit ?_
      have hT2 : w2.heap[w.heap.size]? = some (.cells #[.int .i64 N, v1, .bool nl, v2, v3] 26 (0, 0)) := (hb2.block _ hBA).trans hTA
      refine wk_seq ?_
      refine wk_seq ?_
      refine wk_reg (id := 23) ?_
      refine wk_move rfl rfl ?_
      refine wk_field (f := 4) (i := Tryz.t24) rfl Tryz.underlying26 rfl (by kernel_rfl) (by decide) rfl ?_
      refine wk_load rfl Tryz.underlying24 rfl (by exact cell_blk (by with_reducible assumption) rfl) rfl ?_
      have hbW2 : Below w.heap.size w w2 := hbA.trans (hb2.mono (Nat.le_of_lt hBA))
      rw [← hP2] at hTL'
      refine wk_call Tryz.call27 (vs := [.slice A fs.length c, v3]) rfl rfl ((hU w2 (fun b => w.heap.size ≤ b) (.slice A fs.length c) fs v3 U ((hF0.mono (Y := fun b => w.heap.size ≤ b) (fun b h1 h2 => absurd h2 (by omega))).keep (keeps_below hbW2 (Nat.le_refl _))) htags.1 htags.2
        ((hUr.mono (Y := fun b => w.heap.size ≤ b) (fun b h1 h2 => absurd h2 (by omega))).keep (keeps_below hbW2 (Nat.le_refl _))) hGU).mono ?_)
      rintro e w4 ⟨u, rfl, hu, hb4⟩
      refine ⟨_, rfl, ?_⟩
      have hbA4 := hb2.trans (hb4.mono hb2.size)
      have hO4 := own_in ho2 hb4
      have hu4 : URep w4 (fun b => (wa.heap.size ≤ b ∧ b < w2.heap.size) ∨ w4.heap.size ≤ b) u (sUnknown fs U) := hu.mono (fun b h1 h2 => by
        rcases h2 with h2 | h2
        · exact ⟨by omega, h2.2⟩
        · omega)
      generalize hX0 : (fun b => (wa.heap.size ≤ b ∧ b < w2.heap.size) ∨ w4.heap.size ≤ b) = X0 at hO4 hu4
      have hXb : ∀ b, X0 b → wa.heap.size ≤ b := by
        subst hX0
        have := hbA4.size
        rintro b (h | h) <;> omega
      have hXf : ∀ b, w4.heap.size ≤ b → X0 b := by subst hX0; exact fun b h => .inr h
      generalize hul : sUnknown fs U = ul at hTL' hu4 hu
      have hulen : ul.length ≤ TL.length := by rw [hTL']; simp
      have hu40 := hu4
      obtain ⟨vals, ⟨Au, cu, rfl, hcu, hnilu, hatu⟩, hvals⟩ := hu4
      refine wk_slen rfl Tryz.underlying24 rfl ?_
      refine wk_move rfl rfl ?_
      refine wk_nil ?_
      refine wk_loop (fun i : Nat × Value × List (List UInt8) => [(9, d1), (10, i.2.1), (11, .int .i64 (i.2.2.length : Int)), (100, .slice Au ul.length cu), (101, .int .i64 (ul.length : Int)), (102, .int .i64 (i.1 : Int))])
        (fun i w' => i.1 ≤ ul.length ∧ i.2.2 ++ (ul.drop i.1).map (fun u => sWtag (u.2.take 32767) u.1) = TL ∧ OwnB w' X0 5 i.2.1 i.2.2.flatten ∧ Keeps X0 w4 w' ∧ Below wa.heap.size wa w') (fun i => ul.length - i.1) (0, d2, P)
        rfl ⟨Nat.zero_le _, by simpa using hTL'.symm, hO4, Keeps.refl _ _, hbA4⟩ ?_
      rintro ⟨j, d3, P3⟩ w5 ⟨hj, hP3, hO5, hk5, hb5⟩
      simp only at hj hP3 hO5
      have hsz5 : w4.heap.size ≤ w5.heap.size := hk5.1
      by_cases hlj : j < ul.length
      · have c4 : cmp .lss (j : Int) (ul.length : Int) = some true := by simp [cmp, hlj]
        have hnj : IntKind.i64.wrap ((j : Int) + 1) = ((j + 1 : Nat) : Int) := i64w ((j : Int) + 1) (by omega) (by omega)
        have hdrop : ul.drop j = ul[j] :: ul.drop (j + 1) := List.drop_eq_getElem_cons hlj
        have hgj : ul[j]? = some ul[j] := List.getElem?_eq_getElem hlj
        rw [hdrop, List.map_cons] at hP3
        have hpre : (P3 ++ [sWtag (ul[j].2.take 32767) ul[j].1]) ++ (ul.drop (j + 1)).map (fun u => sWtag (u.2.take 32767) u.1) = TL := by simpa using hP3
        obtain ⟨hl1, hl2⟩ := pre_le hpre
        simp only [List.length_append, List.flatten_append, List.flatten_cons, List.flatten_nil, List.append_nil, List.length_cons, List.length_nil] at hl1 hl2
        have hl3 : (sWtag (ul[j].2.take 32767) ul[j].1).length = (uv ul[j].1).length + ((uv (ul[j].2.take 32767).length).length + (ul[j].2.take 32767).length) := by simp [sWtag]
        obtain ⟨hcl2, b, o, rfl, hXu, hbu, hcellu⟩ := hatu j hlj
        simp only [hgj] at hcl2 hcellu
        obtain ⟨hval, hnum⟩ := hvals j _ hgj
        have hcellw : ∀ k v, ([.int .u32 (ul[j].1 : Int), vals j] : List Value)[k]? = some v → w5.cell? ((⟨b, o + j * 2, none⟩ : Addr).add k) = some v := fun k v hk => by
          rw [add_addr]
          exact (World.cell?_of_block (hk5.2 b hbu hXu)).trans (hcellu k v hk)
        have hval5 := hval.keep hk5
        refine wk_seq ?_
        refine wk_reg (id := 24) ?_
        refine wk_cmp rfl rfl (by with_reducible assumption) rfl ?_
        refine wk_nil ?_
        refine wk_seq ?_
        refine wk_condT rfl ?_
        refine wk_skip ?_
        refine wk_seq ?_
        refine wk_block ?_
        refine wk_seq ?_
        refine wk_reg (id := 25) ?_
        refine wk_idx (i := Tryz.t55) rfl rfl Tryz.underlying24 (by kernel_rfl) hlj rfl ?_
        refine wk_loadA (i := Tryz.t55) rfl Tryz.underlying55 rfl (by kernel_rfl) (vs := [.int .u32 (ul[j].1 : Int), vals j]) rfl hcellw rfl ?_
        refine wk_alloc (t := 55) (i := Tryz.t55) (by kernel_rfl) rfl rfl ?_
        refine wk_storeNew (i := Tryz.t55) rfl rfl (by kernel_rfl) rfl rfl (by simp [hval.one]; rfl) ?_
        have hbn := below1 w5 (.cells ([.int .u32 (ul[j].1 : Int), vals j] : List Value).toArray 55)
        have hvn := hval5.keep (keeps_below (X := X0) hbn (Nat.le_refl _))
        have hOn := OwnC.keep hO5 (keeps_below (X := fun _ => False) hbn (Nat.le_refl _)) (fun _ _ _ h => h)
        have hkn : Keeps X0 w4 _ := hk5.trans (keeps_below (X := X0) hbn (Nat.le_refl _))
        have hbn5 := hb5.trans (hbn.mono hb5.size)
        refine wk_nil ?_
        refine wk_seq ?_
        refine wk_reg (id := 26) ?_
        refine wk_field (f := 1) (i := Tryz.t22) rfl Tryz.underlying55 rfl (by kernel_rfl) (by decide) rfl ?_
        refine wk_load rfl Tryz.underlying22 rfl (by exact cell_new rfl) rfl ?_
        refine wk_call Tryz.call28 (vs := [vals j]) rfl rfl ((whole_any _ X0 (vals j) ul[j].2 hvn).mono ?_)
        rintro e w6 ⟨dw, rfl, hdw, rfl⟩
        refine ⟨_, rfl, ?_⟩
        obtain ⟨Aw, cw, rfl, _⟩ := hdw.form
        have eg : IntKind.u64.wrap (ul[j].1 : Int) = (ul[j].1 : Nat) := u64w _ (by omega)
        have el : IntKind.u64.wrap ((ul[j].2.take 32767).length : Int) = ((ul[j].2.take 32767).length : Nat) := u64i _ (by rw [lim_eq] at hflat ⊢; omega)
        have hflt : (ul[j].2.take 32767).length ≤ 32767 := by rw [List.length_take]; omega
        refine wk_assign rfl rfl ?_
        refine wk_nil ?_
        refine wk_seq ?_
        refine wk_reg (id := 27) ?_
        refine wk_move rfl rfl ?_
        refine wk_field (f := 0) (i := Tryz.t53) rfl Tryz.underlying55 rfl (by kernel_rfl) (by decide) rfl ?_
        refine wk_load rfl Tryz.underlying53 rfl (by exact cell_new rfl) rfl ?_
        refine wk_conv rfl Tryz.underlying53 Tryz.underlying73 rfl ?_
        refine wk_call Tryz.call26 (vs := [.int .u64 (ul[j].1 : Int)]) (congrArg (fun z => [some (Value.int .u64 z)]) eg) rfl ((SUvarint_any _ ul[j].1 (by omega)).mono ?_)
        rintro e wg ⟨dg, rfl, hog, hbk⟩
        refine ⟨_, rfl, ?_⟩
        have hOg := OwnC.keep hOn (keeps_below (X := fun _ => False) hbk (Nat.le_refl _)) (fun _ _ _ h => h)
        have hvg := hdw.keep (keeps_below hbk (Nat.le_refl _))
        have hkg := hkn.trans (keeps_below (X := X0) hbk (Nat.le_refl _))
        have hbg2 := hbn5.trans (hbk.mono hbn5.size)
        have hug : BytesRep0 wg (fun _ => False) dg (uv ul[j].1) := (OwnC.of_own hog).bytes (fun _ _ _ h => h)
        skip
        refine wk_appendR rfl rfl (app_inB byteT (fun b h => hXf b (Nat.le_trans hkg.1 h)) hXb hbg2.size hug hOg (by omega)) rfl ?_
        rintro dh wh ⟨hOh, hkh, hbl⟩
        have hvh := hvg.keep hkh
        have hkh2 := hkg.trans hkh
        have hbh2 := hbg2.trans (hbl.mono (Nat.le_refl _))
        refine wk_move rfl rfl ?_
        refine wk_slen rfl Tryz.underlying22 rfl ?_
        refine wk_conv rfl Tryz.underlying3 Tryz.underlying73 rfl ?_
        refine wk_call Tryz.call26 (vs := [.int .u64 ((ul[j].2.take 32767).length : Int)]) (congrArg (fun z => [some (Value.int .u64 z)]) el) rfl ((SUvarint_any wh _ (by omega)).mono ?_)
        rintro e wi ⟨di, rfl, hoi, hbm⟩
        refine ⟨_, rfl, ?_⟩
        have hOi := OwnC.keep hOh (keeps_below (X := fun _ => False) hbm (Nat.le_refl _)) (fun _ _ _ h => h)
        have hvi := hvh.keep (keeps_below hbm (Nat.le_refl _))
        have hki := hkh2.trans (keeps_below (X := X0) hbm (Nat.le_refl _))
        have hbi2 := hbh2.trans (hbm.mono hbh2.size)
        have hui : BytesRep0 wi (fun _ => False) di (uv (ul[j].2.take 32767).length) := (OwnC.of_own hoi).bytes (fun _ _ _ h => h)
        skip
        refine wk_appendR rfl rfl (app_inB byteT (fun b h => hXf b (Nat.le_trans hki.1 h)) hXb hbi2.size hui hOi (by rw [List.length_append]; omega)) rfl ?_
        rintro dj wj ⟨hOj, hkj, hbn2⟩
        have hvj := hvi.keep hkj
        have hkj2 := hki.trans hkj
        have hbj2 := hbi2.trans hbn2
        refine wk_move rfl rfl ?_
        refine wk_appendR rfl rfl (app_inB byteT (fun b h => hXf b (Nat.le_trans hkj2.1 h)) hXb hbj2.size hvj hOj (by simp only [List.length_append]; omega)) rfl ?_
        rintro dk wk' ⟨hOk, hkk, hbo⟩
        have hkk2 := hkj2.trans hkk
        have hbk2 := hbj2.trans hbo
        have ecnt : IntKind.i64.wrap ((P3.length : Int) + 1) = ((P3 ++ [sWtag (ul[j].2.take 32767) ul[j].1]).length : Nat) := (i64w _ (by omega) (by omega)).trans (by simp)
        have hfl : (P3 ++ [sWtag (ul[j].2.take 32767) ul[j].1]).flatten = P3.flatten ++ uv ul[j].1 ++ uv (ul[j].2.take 32767).length ++ ul[j].2.take 32767 := by
          simp [sWtag]
        refine wk_assign rfl rfl ?_
        refine wk_nil ?_
        refine wk_reg (id := 28) ?_
        refine wk_move rfl rfl ?_
        refine wk_add rfl rfl rfl ?_
        refine wk_assign rfl rfl ?_
        refine wk_nil ?_
        refine wk_blockEnd ?_
        refine wk_reg (id := 29) ?_
        refine wk_add rfl rfl rfl ?_
        refine wk_move rfl rfl ?_
        refine wk_nil ?_
        refine wk_loopNext (j + 1, dk, P3 ++ [sWtag (ul[j].2.take 32767) ul[j].1]) (by simp only; omega)
          (show [some d1, some dk, some (Value.int .i64 _), some (Value.slice _ ul.length cu), some (Value.int .i64 (ul.length : Int)), some (Value.int .i64 _)] = _ from by rw [ecnt, hnj]; rfl)
          ⟨by simp only; omega, by simpa using hP3, ?_, hkk2, hbk2⟩
        show OwnB wk' X0 5 dk (P3 ++ [sWtag (ul[j].2.take 32767) ul[j].1]).flatten
        rw [hfl]
        exact hOk
      · have c4 : cmp .lss (j : Int) (ul.length : Int) = some false := by simp [cmp]; omega
        rw [List.drop_of_length_le (by omega), List.map_nil, List.append_nil] at hP3
        subst hP3
        have ec : IntKind.u64.wrap (P3.length : Int) = (P3.length : Nat) := u64i _ hcnt
        refine wk_seq ?_
        refine wk_reg (id := 24) ?_
        refine wk_cmp rfl rfl (by with_reducible assumption) rfl ?_
        refine wk_nil ?_
        refine wk_seq ?_
        refine wk_condF rfl ?_
        refine wk_loopExit ?_
        refine wk_seq ?_
        refine wk_reg (id := 30) ?_
        refine wk_move rfl rfl ?_
        refine wk_move rfl rfl ?_
        refine wk_conv rfl Tryz.underlying3 Tryz.underlying73 rfl ?_
        refine wk_call Tryz.call26 (vs := [.int .u64 (P3.length : Int)]) (congrArg (fun z => [some (Value.int .u64 z)]) ec) rfl ((SUvarint_any w5 P3.length (by omega)).mono ?_)
        rintro e w6 ⟨du, rfl, hou, hbu⟩
        refine ⟨_, rfl, ?_⟩
        have hbA6 := hb5.trans (hbu.mono hb5.size)
        have hO9 := own_in hoA hbA6
        have hO6 := OwnC.keep hO5 (keeps_below (X := fun _ => False) hbu (Nat.le_refl _)) (fun _ _ _ h => h)
        have hv6 : BytesRep0 w6 (fun b => (w.heap.size ≤ b ∧ b < wa.heap.size) ∨ w6.heap.size ≤ b) d3 P3.flatten := hO6.bytes (fun b h1 h2 h3 => by
          have := hXb b h2
          rcases h3 with h3 | h3 <;> omega)
        have hXb9 : ∀ b, ((w.heap.size ≤ b ∧ b < wa.heap.size) ∨ w6.heap.size ≤ b) → w.heap.size ≤ b := by
          have := hbA6.size
          rintro b (h | h) <;> omega
        have hu6 : BytesRep0 w6 (fun _ => False) du (uv P3.length) := (OwnC.of_own hou).bytes (fun _ _ _ h => h)
        have hbW6 : Below w.heap.size w w6 := hbA.trans (hbA6.mono (Nat.le_of_lt hBA))
        skip
        refine wk_appendR rfl rfl (app_inB byteT (fun b h => .inr h) hXb9 hbW6.size hu6 hO9 (by omega)) rfl ?_
        rintro d7 w7 ⟨hO7, hk7, hb7⟩
        have hv7 := hv6.keep hk7
        have hbW7 := hbW6.trans hb7
        refine wk_move rfl rfl ?_
        refine wk_appendR rfl rfl (app_inB byteT (fun b h => .inr (Nat.le_trans hk7.1 h)) hXb9 hbW7.size hv7 hO7 (by rw [List.length_append]; omega)) rfl ?_
        rintro d8 w8 ⟨hO8, hk8, hb8⟩
        refine wk_assign rfl rfl ?_
        refine wk_nil ?_
        refine wk_ret r0 rfl rfl ⟨d8, rfl, ?_, hbW7.trans hb8⟩
        rw [if_pos rfl, ← List.append_assoc]
        exact OwnC.to_own hO8 hXb9
theorem part_all {G : List (Nat × List UInt8) → Prop} (h0 : G []) (hU : UnkC G) (d : Nat) : PartC G d := by
  induction d with
  | zero => intro w X v fs vs t ver flex _ _ h; cases h
  | succ d ih => exact part_any h0 hU d ih
end Go.Proofs.YthejiimocbfagabGreatDoor
