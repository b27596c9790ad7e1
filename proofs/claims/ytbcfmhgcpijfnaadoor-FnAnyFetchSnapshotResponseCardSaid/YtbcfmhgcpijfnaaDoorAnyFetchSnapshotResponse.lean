/-
  What is read of any bytes as a FetchSnapshotResponse is written as bytes that are read again, and written as the same; for every input that the row lets in (the variable ErrNotEnoughData as the program lays it).
-/
import Derived.Test.YtbcfmhgcpijfnaaDoorMsgFetchSnapshotResponse
import Derived.Test.YtbcfmhgcpijfnaaDoorAgFacts
import Derived.Test.YtbcfmhgcpijfnaaDoorCards
import Derived.Test.YtbcfmhgcpijfnaaDoorTie
set_option linter.unusedVariables false
set_option linter.unusedSimpArgs false
namespace Go.Proofs.YtbcfmhgcpijfnaaDoor
open Go Go.RowKit Go.Proofs.Eng
set_option maxRecDepth 20000
set_option maxHeartbeats 4000000

/-! ## the law -/
theorem walk_AnyFetchSnapshotResponse {E : Value} (hE : ∃ u q, E = .iface u q) (a0 : Int) (w0 : (Lit.int .u8 a0).wf = true) (w : World) (X : Nat → Prop) (sv : Value) (l : List UInt8) (hv : BytesRep0 w X sv l) (hg : w.cell? ⟨1, 0, none⟩ = some E) : Calls Tryd.prog 3 #[.int .u8 a0, sv] w fun e w' => e = .returned (.bool true) ∧ Below w.heap.size w w' := by
  obtain ⟨h0, h1⟩ := bounds_u8 w0
  obtain ⟨ver, hvr, hm⟩ := ver_of a0 1 h0
  obtain ⟨A, c, rfl, _⟩ := hv.form
  obtain ⟨S, cs, V, hcs, hc0⟩ := ok_FetchSnapshotResponse ver hm
  have hgl : 1 < w.heap.size := lt_of_cell hg
  have cm : cmp .lss 1 0 = some false := rfl
  refine calls_wk (args := [.int .u8 a0, .slice A l.length c]) Tryd.func3 rfl rfl ?_
  by_cases hl1 : l.length ≤ 1000
  · have c1 : cmp .gtr (l.length : Int) 2147483647 = some false := by simp [cmp]; omega
    have c2 : cmp .gtr (l.length : Int) 1000 = some false := by simp [cmp]; omega
    refine wk_seq ?_
    refine wk_reg (id := 0) ?_
    refine wk_assign rfl rfl ?_
    refine wk_nil ?_
    refine wk_seq ?_
    refine wk_seq ?_
    refine wk_reg (id := 1) ?_
    refine wk_move rfl rfl ?_
    refine wk_slen rfl Tryd.underlying22 rfl ?_
    refine wk_cmp rfl rfl (by with_reducible assumption) rfl ?_
    refine wk_nil ?_
    refine wk_condF rfl ?_
    refine wk_skip ?_
    refine wk_seq ?_
    refine wk_reg (id := 3) ?_
    refine wk_call Tryd.call4 (vs := []) rfl rfl ((c_Max_FetchSnapshotResponse w).mono ?_)
    rintro e w1 ⟨rfl, hb1⟩
    refine ⟨_, rfl, ?_⟩
    refine wk_assign rfl rfl ?_
    refine wk_nil ?_
    refine wk_seq ?_
    refine wk_seq ?_
    refine wk_reg (id := 4) ?_
    refine wk_move rfl rfl ?_
    refine wk_cmp rfl rfl (by with_reducible assumption) rfl ?_
    refine wk_nil ?_
    refine wk_condF rfl ?_
    refine wk_skip ?_
    refine wk_seq ?_
    refine wk_seq ?_
    refine wk_reg (id := 6) ?_
    refine wk_move rfl rfl ?_
    refine wk_slen rfl Tryd.underlying22 rfl ?_
    refine wk_cmp rfl rfl (by with_reducible assumption) rfl ?_
    refine wk_nil ?_
    refine wk_condF rfl ?_
    refine wk_skip ?_
    refine wk_seq ?_
    refine wk_reg (id := 8) ?_
    refine wk_move rfl rfl ?_
    refine wk_move rfl rfl ?_
    refine wk_call Tryd.call6 (vs := [.int .u8 a0, .int .i64 1]) rfl rfl ((c_version w1 a0 1 h0 h1 (by decide) (by decide)).mono ?_)
    rintro e wv ⟨rfl, rfl⟩
    refine ⟨_, rfl, ?_⟩
    refine wk_move rfl rfl ?_
    refine wk_call Tryd.call5 (vs := [.int .i64 (ver : Int), .slice A l.length c]) (congrArg (fun z => [some (Value.int .i64 z), some (Value.slice A l.length c)]) hvr) rfl
      ((c_Again_FetchSnapshotResponse hE hm V hcs hc0 wv X (.slice A l.length c) l (hv.keep (keeps_below hb1 (Nat.le_refl _))) (by omega) ((hb1.cell (p := ⟨1, 0, none⟩) hgl).trans hg)).mono ?_)
    rintro e w2 ⟨d1, ok1, rfl, hb2, hyes, hno⟩
    refine ⟨_, rfl, ?_⟩
    have hb02 := hb1.trans (hb2.mono hb1.size)
    refine wk_move rfl rfl ?_
    refine wk_extract rfl rfl rfl ?_
    refine wk_extract rfl rfl rfl ?_
    refine wk_assign rfl rfl ?_
    refine wk_assign rfl rfl ?_
    refine wk_nil ?_
    refine wk_seq ?_
    refine wk_seq ?_
    refine wk_reg (id := 9) ?_
    refine wk_move rfl rfl ?_
    refine wk_not rfl rfl ?_
    refine wk_nil ?_
    have hS : SOk S 0 cs.length = true := by rw [(cvs0_ok hcs).2.1.1]; exact SOk.lo V.ok (Nat.zero_le _)
    cases hag : againR S cs l with
    | none =>
      have h2 := hno hag
      subst h2
      skip
      refine wk_condT rfl ?_
      refine wk_seq ?_
      refine wk_reg (id := 10) ?_
      refine wk_assign rfl rfl ?_
      refine wk_nil ?_
      exact wk_ret r0 rfl rfl ⟨rfl, hb02⟩
    | some b =>
      obtain ⟨h2, ho1⟩ := hyes b hag
      subst h2
      obtain ⟨hag2, hlen⟩ := any_ok hS (V.kok cs hcs) hag (by omega)
      have hr1 : BytesRep0 w2 (fun _ => False) d1 b := (OwnC.of_own ho1).bytes (fun _ _ _ h => h)
      skip
      refine wk_condF rfl ?_
      refine wk_skip ?_
      refine wk_seq ?_
      refine wk_reg (id := 11) ?_
      refine wk_move rfl rfl ?_
      refine wk_move rfl rfl ?_
      refine wk_call Tryd.call6 (vs := [.int .u8 a0, .int .i64 1]) rfl rfl ((c_version w2 a0 1 h0 h1 (by decide) (by decide)).mono ?_)
      rintro e wv2 ⟨rfl, rfl⟩
      refine ⟨_, rfl, ?_⟩
      refine wk_move rfl rfl ?_
      refine wk_call Tryd.call5 (vs := [.int .i64 (ver : Int), d1]) (congrArg (fun z => [some (Value.int .i64 z), some d1]) hvr) rfl
        ((c_Again_FetchSnapshotResponse hE hm V hcs hc0 wv2 (fun _ => False) d1 b hr1 (by omega) ((hb02.cell (p := ⟨1, 0, none⟩) hgl).trans hg)).mono ?_)
      rintro e w3 ⟨d2, ok2, rfl, hb3, hyes2, _⟩
      refine ⟨_, rfl, ?_⟩
      obtain ⟨h3, ho2⟩ := hyes2 b hag2
      subst h3
      have hb03 := hb02.trans (hb3.mono hb02.size)
      have hr13 := hr1.keep (keeps_below hb3 (Nat.le_refl _))
      have hr2 : BytesRep0 w3 (fun _ => False) d2 b := (OwnC.of_own ho2).bytes (fun _ _ _ h => h)
      refine wk_move rfl rfl ?_
      refine wk_extract rfl rfl rfl ?_
      refine wk_extract rfl rfl rfl ?_
      refine wk_assign rfl rfl ?_
      refine wk_assign rfl rfl ?_
      refine wk_nil ?_
      refine wk_seq ?_
      refine wk_reg (id := 12) ?_
      refine wk_move rfl rfl ?_
      refine wk_move rfl rfl ?_
      refine wk_gT rfl ?_; refine wk_move rfl rfl ?_
      refine wk_gT rfl ?_; refine wk_move rfl rfl ?_
      refine wk_gT rfl ?_
      refine wk_call Tryd.call7 (vs := [d1, d2]) rfl rfl ((Same_any w3 (fun _ => False) (fun _ => False) d1 d2 b b hr13 hr2 (by rw [lim_eq]; omega) (by rw [lim_eq]; omega)).mono ?_)
      rintro e w4 ⟨rfl, hb4⟩
      refine ⟨_, rfl, ?_⟩
      refine wk_pick rfl rfl rfl rfl ?_
      refine wk_assign rfl rfl ?_
      refine wk_nil ?_
      exact wk_ret r0 rfl rfl ⟨by rw [beq_self_eq_true]; rfl, hb03.trans (hb4.mono hb03.size)⟩
  · have c2 : cmp .gtr (l.length : Int) 1000 = some true := by simp [cmp]; omega
    by_cases hl2 : l.length ≤ 2147483647
    · have c1 : cmp .gtr (l.length : Int) 2147483647 = some false := by simp [cmp]; omega
      refine wk_seq ?_
      refine wk_reg (id := 0) ?_
      refine wk_assign rfl rfl ?_
      refine wk_nil ?_
      refine wk_seq ?_
      refine wk_seq ?_
      refine wk_reg (id := 1) ?_
      refine wk_move rfl rfl ?_
      refine wk_slen rfl Tryd.underlying22 rfl ?_
      refine wk_cmp rfl rfl (by with_reducible assumption) rfl ?_
      refine wk_nil ?_
      refine wk_condF rfl ?_
      refine wk_skip ?_
      refine wk_seq ?_
      refine wk_reg (id := 3) ?_
      refine wk_call Tryd.call4 (vs := []) rfl rfl ((c_Max_FetchSnapshotResponse w).mono ?_)
      rintro e w1 ⟨rfl, hb1⟩
      refine ⟨_, rfl, ?_⟩
      refine wk_assign rfl rfl ?_
      refine wk_nil ?_
      refine wk_seq ?_
      refine wk_seq ?_
      refine wk_reg (id := 4) ?_
      refine wk_move rfl rfl ?_
      refine wk_cmp rfl rfl (by with_reducible assumption) rfl ?_
      refine wk_nil ?_
      refine wk_condF rfl ?_
      refine wk_skip ?_
      refine wk_seq ?_
      refine wk_seq ?_
      refine wk_reg (id := 6) ?_
      refine wk_move rfl rfl ?_
      refine wk_slen rfl Tryd.underlying22 rfl ?_
      refine wk_cmp rfl rfl (by with_reducible assumption) rfl ?_
      refine wk_nil ?_
      refine wk_condT rfl ?_
      refine wk_seq ?_
      refine wk_reg (id := 7) ?_
      refine wk_assign rfl rfl ?_
      refine wk_nil ?_
      exact wk_ret r0 rfl rfl ⟨rfl, hb1⟩
    · have c1 : cmp .gtr (l.length : Int) 2147483647 = some true := by simp [cmp]; omega
      refine wk_seq ?_
      refine wk_reg (id := 0) ?_
      refine wk_assign rfl rfl ?_
      refine wk_nil ?_
      refine wk_seq ?_
      refine wk_seq ?_
      refine wk_reg (id := 1) ?_
      refine wk_move rfl rfl ?_
      refine wk_slen rfl Tryd.underlying22 rfl ?_
      refine wk_cmp rfl rfl (by with_reducible assumption) rfl ?_
      refine wk_nil ?_
      refine wk_condT rfl ?_
      refine wk_seq ?_
      refine wk_reg (id := 2) ?_
      refine wk_assign rfl rfl ?_
      refine wk_nil ?_
      exact wk_ret r0 rfl rfl ⟨rfl, Below.refl _ _⟩
open Go.ChangeShapes Go.WideShapes Go.ChangeAt in
theorem reads_FnAnyFetchSnapshotResponse (os : Os) {H : Type} (enc : TypeId × Value → H) : ∃ places, DataW.whole enc Tryd.prog ((laidWorld os).forCall (fun _ _ => 0) ⟨#[], #[.int .u8 0, .slice none 0 0], []⟩).memory Tryd.f3.params.toList Rows.fnAnyFetchSnapshotResponseSpec.vars false #[.int .u8 0, .slice none 0 0].toList 12 = some ([.lit (.int .u8 0), .nil], [], places) :=
  ⟨[], by kernel_rfl⟩
open Go.ChangeShapes Go.WideShapes Go.ChangeAt in
set_option maxRecDepth 100000 in
set_option linter.unusedVariables false in
theorem lifted_FnAnyFetchSnapshotResponse (os : Os) (started : os.Started) (H : Type) (enc : TypeId × Value → H) (F : Stop.Interp) :
    ReturnsInHanded {} Tryd.checked os 3 .any ((OpenSpec.ofChange Rows.fnAnyFetchSnapshotResponseSpec).preRow enc Tryd.prog Tryd.f3 Rows.fnAnyFetchSnapshotResponseRow.domain false Rows.fnAnyFetchSnapshotResponseRow.laid) (((OpenSpec.ofChange Rows.fnAnyFetchSnapshotResponseSpec).at F).post enc Tryd.prog Tryd.f3 false true false false) := by
  obtain ⟨places, hx⟩ := reads_FnAnyFetchSnapshotResponse os enc
  refine returnsInHanded_of_row (C := Tryd.checked) (s := OpenSpec.ofChange Rows.fnAnyFetchSnapshotResponseSpec) own started (by kernel_rfl) Tryd.func3
    (witness_row_at (enc := enc) (C := Tryd.checked) false (laidWorld os) #[.int .u8 0, .slice none 0 0] rfl (by kernel_rfl) (by kernel_rfl) (by kernel_rfl)
      (OpenSpec.preRow_of_cond 12 hx (by kernel_rfl) (fun k hk => by cases hk) (by kernel_rfl) (laid_met os _))) ?_
  intro W base args ds gs before hval0 hW _ hcond hsz hL hsh _
  have hval : ∀ (j : Nat) t v, Tryd.f3.params[j]? = some t → args[j]? = some v → Value.okWide Tryd.prog W .any base t v := hval0
  have hW' := hW
  obtain ⟨p, q, hA0, hV, rfl, hfz, hnd⟩ := hW
  have hA : DataW.TrodAll enc Tryd.prog W 0 (fun _ => true) true Tryd.f3.params.toList args.toList ds p := hA0
  rw [Tryd.params3] at hA hval
  obtain ⟨E, hE, hg⟩ := sentinel hL
  obtain ⟨v0, vs0, d0, ds0, p0, q0, hargs, rfl, rfl, h0, r0⟩ := trodAll_cons hA
  obtain ⟨v1, vs1, d1, ds1, p1, q1, rfl, rfl, rfl, h1, r1⟩ := trodAll_cons r0
  obtain ⟨rfl, rfl, rfl⟩ := trodAll_nil r1
  obtain rfl : args = #[v0, v1] := by cases args; simp_all
  obtain ⟨rfl, rfl⟩ := trodVars_none hV
  obtain ⟨a0, rfl, rfl, rfl, w0⟩ := open_int Tryd.underlying5 (hval 0 5 v0 rfl rfl) h0
  obtain ⟨l, hrep⟩ := bytes_open Tryd.underlying22 Tryd.underlying5 cellsU8 (hval 1 22 v1 rfl rfl) h1
  clear hA0 hval0
  simp only [List.append_nil] at hW'
  refine (walk_AnyFetchSnapshotResponse hE a0 w0 W (fun _ => False) v1 l hrep hg).mono fun e W' ⟨he, hb⟩ => ?_
  subst he
  have hlt : ∀ x ∈ p1, x.block < W.heap.size := fun x hx => hW'.lt x (by simp [hx])
  exact ⟨_, rfl, post_of_below (pa := [] ++ (p1 ++ [])) (pv := []) hW' (fun _ _ _ => (trodAll_cons_mk (shut_bool Tryd.underlying4 _) trodAll_mk0))
    (fun sp hsp => (trodAll_cons_mk (shut_int Tryd.underlying5 w0) (trodAll_cons_mk (WideElems.Trod_stays P_laid (by kernel_rfl) (of_decide_eq_true (by kernel_rfl)) h1 (fun x hx => hb.same (hlt x hx)) (fun x hx => hsp x (by simp [hx]))) trodAll_mk0))) (fun _ _ => rfl) (by simp)
    hb (ok_one (by kernel_rfl) rfl (okWide_bool_mk Tryd.underlying4 _))⟩
theorem named_FnAnyFetchSnapshotResponse : Tryd.prog.funcNamed Rows.fnAnyFetchSnapshotResponseRow.func = some 3 := by kernel_rfl
theorem inPlace_FnAnyFetchSnapshotResponse : (Rows.fnAnyFetchSnapshotResponseRow.inPlace == Tryd.prog.inPlace 3) = true := by kernel_rfl
theorem unfollowed_FnAnyFetchSnapshotResponse : (Rows.fnAnyFetchSnapshotResponseRow.unfollowed == Tryd.prog.unfollowed 3) = true := by kernel_rfl
theorem recurses_FnAnyFetchSnapshotResponse : (Rows.fnAnyFetchSnapshotResponseRow.recurses == Tryd.prog.recurses 3) = true := by kernel_rfl
theorem vars_FnAnyFetchSnapshotResponse : (Rows.fnAnyFetchSnapshotResponseRow.named == Tryd.prog.varsNamed 3) = true := by kernel_rfl
theorem joined_FnAnyFetchSnapshotResponse : joinedFacts Tryd.prog 3 Tryd.f3 (OpenSpec.ofChange Rows.fnAnyFetchSnapshotResponseSpec).bare Rows.fnAnyFetchSnapshotResponseRow = true := by
  unfold joinedFacts
  iterate 4 refine and2 ?_ (by as_aux_lemma => kernel_rfl)
  refine and2 (and2 (and2 (and2 ?_ P_heard) P_enter) P_lifts) P_make
  refine and2 (and2 ?_ P_keys) (by as_aux_lemma => kernel_rfl)
  iterate 9 refine and2 ?_ (by as_aux_lemma => kernel_rfl)
  refine and2 (and2 (and2 (and2 ?_ inPlace_FnAnyFetchSnapshotResponse) unfollowed_FnAnyFetchSnapshotResponse) recurses_FnAnyFetchSnapshotResponse) vars_FnAnyFetchSnapshotResponse
  iterate 6 refine and2 ?_ (by as_aux_lemma => kernel_rfl)
  refine and2 (and2 ?_ P_laid) P_maps
  kernel_rfl
theorem said_FnAnyFetchSnapshotResponse : Rows.FnAnyFetchSnapshotResponseSaid :=
  OpenClaim.holds_of_cond 3 Tryd.f3 rfl rfl rfl rfl rfl rfl rfl ⟨rfl, rfl, rfl, rfl, rfl⟩ rfl rfl rfl rfl rfl named_FnAnyFetchSnapshotResponse Tryd.func3 joined_FnAnyFetchSnapshotResponse
    (of_decide_eq_true (by as_aux_lemma => kernel_rfl)) (by unfold Func.isWrapper; first | (rw [if_pos (by decide +kernel)]; kernel_rfl) | (rw [if_neg (by decide +kernel)]; exact ⟨rfl, rfl⟩))
    (fun os started H enc _ F => by rw [OpenClaim.pre_eq_preRow]; exact lifted_FnAnyFetchSnapshotResponse os started H enc F)
theorem looks_FnAnyFetchSnapshotResponse : false = Tryd.pinned.checked.prog.looks [] := by kernel_rfl
theorem plain_FnAnyFetchSnapshotResponse (f : FuncId) (fn : Func) (hf : Tryd.pinned.checked.prog.funcNamed Rows.fnAnyFetchSnapshotResponseRow.func = some f) (hfn : Tryd.pinned.checked.prog.funcs[f]? = some fn) :
    false = Tryd.pinned.checked.prog.looks [] ∧ ∀ (j : Nat) t, fn.params[j]? = some t → Tryd.pinned.checked.prog.wantsStandIn t = false := by
  obtain rfl : f = 3 := Option.some.inj (hf.symm.trans named_FnAnyFetchSnapshotResponse)
  obtain rfl : fn = Tryd.f3 := (Option.some.inj (Tryd.func3.symm.trans hfn)).symm
  refine ⟨looks_FnAnyFetchSnapshotResponse, fun j t ht => ?_⟩
  rw [Tryd.params3] at ht
  have h : t = 5 ∨ t = 22 := by simpa using Array.mem_of_getElem? ht
  rcases h with rfl | rfl
  · exact (show Tryd.prog.wantsStandIn 5 = false by kernel_rfl)
  · exact (show Tryd.prog.wantsStandIn 22 = false by kernel_rfl)
/-- The card. -/
theorem holds_FnAnyFetchSnapshotResponse : Rows.FnAnyFetchSnapshotResponseCardSaid :=
  Claim7.holds_tied_plain_at .later [] _ _ _ _ said_FnAnyFetchSnapshotResponse (fun _ h => by cases h) (by kernel_rfl) (fun _ h => by cases h) fnAnyFetchSnapshotResponse_row_tie rfl ⟨rfl, rfl⟩ (by kernel_rfl) rfl plain_FnAnyFetchSnapshotResponse (by kernel_rfl)
#print axioms holds_FnAnyFetchSnapshotResponse
end Go.Proofs.YtbcfmhgcpijfnaaDoor
