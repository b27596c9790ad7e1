/-
  FnConfigTypeText: a value that the documentation names is written as its word, and marshalled so; both are read as the value; for every input that the row lets in (the variables as the program lays them).
-/
import Derived.Test.YthelpljefckgkaaDoorCfg5
import Derived.Deep.DeepWitnessRowRef
import Derived.Test.YthelpljefckgkaaDoorCards
import Derived.Test.YthelpljefckgkaaDoorTie
set_option linter.unusedVariables false
set_option linter.unusedSimpArgs false
namespace Go.Proofs.YthelpljefckgkaaDoor
open Go Go.RowKit Go.Proofs.Eng
set_option maxRecDepth 20000
set_option maxHeartbeats 4000000
open Go.ChangeShapes Go.WideShapes Go.ChangeAt in
theorem reads_FnConfigTypeText (os : Os) {H : Type} (enc : TypeId × Value → H) : ∃ places, DataW.whole enc Tryd.prog ((laidWorld os).forCall (fun _ _ => 0) ⟨#[], #[.int .i8 0], []⟩).memory Tryd.f3.params.toList Rows.fnConfigTypeTextSpec.vars false #[.int .i8 0].toList 12 = some ([.lit (.int .i8 0)], [], places) :=
  ⟨[], by kernel_rfl⟩
open Go.ChangeShapes Go.WideShapes Go.ChangeAt in
set_option maxRecDepth 100000 in
set_option linter.unusedVariables false in
theorem lifted_FnConfigTypeText (os : Os) (started : os.Started) (H : Type) (enc : TypeId × Value → H) (F : Stop.Interp) :
    ReturnsInHanded {} Tryd.checked os 3 .any ((OpenSpec.ofChange Rows.fnConfigTypeTextSpec).preRow enc Tryd.prog Tryd.f3 Rows.fnConfigTypeTextRow.domain false Rows.fnConfigTypeTextRow.laid) (((OpenSpec.ofChange Rows.fnConfigTypeTextSpec).at F).post enc Tryd.prog Tryd.f3 false true false false) := by
  obtain ⟨places, hx⟩ := reads_FnConfigTypeText os enc
  refine returnsInHanded_of_row (C := Tryd.checked) (s := OpenSpec.ofChange Rows.fnConfigTypeTextSpec) own started (by kernel_rfl) Tryd.func3
    (witness_row_atRef (enc := enc) (C := Tryd.checked) false (laidWorld os) #[.int .i8 0] rfl (by kernel_rfl) (by kernel_rfl) (by kernel_rfl)
      (OpenSpec.preRow_of_cond 12 hx (by kernel_rfl) (fun k hk => by cases hk) (by kernel_rfl) (laid_met os _))) ?_
  intro W base args ds gs before hval0 hW _ hcond hsz hL hsh _
  have hval : ∀ (j : Nat) t v, Tryd.f3.params[j]? = some t → args[j]? = some v → Value.okWide Tryd.prog W .any base t v := hval0
  have hW' := hW
  obtain ⟨p, q, hA0, hV, rfl, hfz, hnd⟩ := hW
  have hA : DataW.TrodAll enc Tryd.prog W 0 (fun _ => true) true Tryd.f3.params.toList args.toList ds p := hA0
  rw [Tryd.params3] at hA hval
  obtain ⟨v0, vs0, d0, ds0, p0, q0, hargs, rfl, rfl, h0, r0⟩ := trodAll_cons hA
  obtain ⟨rfl, rfl, rfl⟩ := trodAll_nil r0
  obtain rfl : args = #[v0] := by cases args; simp_all
  obtain ⟨rfl, rfl⟩ := trodVars_none hV
  obtain ⟨a0, rfl, rfl, rfl, w0⟩ := open_int Tryd.underlying22 (hval 0 22 v0 rfl rfl) h0
  clear hA0 hval0
  simp only [List.append_nil] at hW'
  refine (walk_ConfigTypeText W a0 w0 (tab_of hL)).mono fun e W' ⟨he, hb⟩ => ?_
  subst he
  exact ⟨_, rfl, post_of_below (pa := []) (pv := []) hW' (fun _ _ _ => (trodAll_cons_mk (shut_bool Tryd.underlying4 _) trodAll_mk0)) (fun sp _ => (trodAll_cons_mk (shut_int Tryd.underlying22 w0) trodAll_mk0)) (fun _ _ => rfl) rfl
    hb (ok_one (by kernel_rfl) rfl (okWide_bool_mk Tryd.underlying4 _))⟩
theorem named_FnConfigTypeText : Tryd.prog.funcNamed Rows.fnConfigTypeTextRow.func = some 3 := by kernel_rfl
theorem inPlace_FnConfigTypeText : (Rows.fnConfigTypeTextRow.inPlace == Tryd.prog.inPlace 3) = true := by kernel_rfl
theorem unfollowed_FnConfigTypeText : (Rows.fnConfigTypeTextRow.unfollowed == Tryd.prog.unfollowed 3) = true := by kernel_rfl
theorem recurses_FnConfigTypeText : (Rows.fnConfigTypeTextRow.recurses == Tryd.prog.recurses 3) = true := by kernel_rfl
theorem vars_FnConfigTypeText : (Rows.fnConfigTypeTextRow.named == Tryd.prog.varsNamed 3) = true := by kernel_rfl
theorem joined_FnConfigTypeText : joinedFacts Tryd.prog 3 Tryd.f3 (OpenSpec.ofChange Rows.fnConfigTypeTextSpec).bare Rows.fnConfigTypeTextRow = true := by
  unfold joinedFacts
  iterate 4 refine and2 ?_ (by as_aux_lemma => kernel_rfl)
  refine and2 (and2 (and2 (and2 ?_ P_heard) P_enter) P_lifts) P_make
  refine and2 (and2 ?_ P_keys) (by as_aux_lemma => kernel_rfl)
  iterate 9 refine and2 ?_ (by as_aux_lemma => kernel_rfl)
  refine and2 (and2 (and2 (and2 ?_ inPlace_FnConfigTypeText) unfollowed_FnConfigTypeText) recurses_FnConfigTypeText) vars_FnConfigTypeText
  iterate 6 refine and2 ?_ (by as_aux_lemma => kernel_rfl)
  refine and2 (and2 ?_ P_laid) P_maps
  kernel_rfl
theorem said_FnConfigTypeText : Rows.FnConfigTypeTextSaid :=
  OpenClaim.holds_of_cond 3 Tryd.f3 rfl rfl rfl rfl rfl rfl rfl ⟨rfl, rfl, rfl, rfl, rfl⟩ rfl rfl rfl rfl rfl named_FnConfigTypeText Tryd.func3 joined_FnConfigTypeText
    (of_decide_eq_true (by as_aux_lemma => kernel_rfl)) (by unfold Func.isWrapper; first | (rw [if_pos (by decide +kernel)]; kernel_rfl) | (rw [if_neg (by decide +kernel)]; exact ⟨rfl, rfl⟩))
    (fun os started H enc _ F => by rw [OpenClaim.pre_eq_preRow]; exact lifted_FnConfigTypeText os started H enc F)
theorem looks_FnConfigTypeText : false = Tryd.pinned.checked.prog.looks [] := by kernel_rfl
theorem plain_FnConfigTypeText (f : FuncId) (fn : Func) (hf : Tryd.pinned.checked.prog.funcNamed Rows.fnConfigTypeTextRow.func = some f) (hfn : Tryd.pinned.checked.prog.funcs[f]? = some fn) :
    false = Tryd.pinned.checked.prog.looks [] ∧ ∀ (j : Nat) t, fn.params[j]? = some t → Tryd.pinned.checked.prog.wantsStandIn t = false := by
  obtain rfl : f = 3 := Option.some.inj (hf.symm.trans named_FnConfigTypeText)
  obtain rfl : fn = Tryd.f3 := (Option.some.inj (Tryd.func3.symm.trans hfn)).symm
  refine ⟨looks_FnConfigTypeText, fun j t ht => ?_⟩
  rw [Tryd.params3] at ht
  have h : t = 22 := by simpa using Array.mem_of_getElem? ht
  rcases h with rfl
  · exact (show Tryd.prog.wantsStandIn 22 = false by kernel_rfl)
/-- The card. -/
theorem holds_FnConfigTypeText : Rows.FnConfigTypeTextCardSaid :=
  Claim7.holds_tied_plain_at .later [] _ _ _ _ said_FnConfigTypeText (fun _ h => by cases h) (by kernel_rfl) (fun _ h => by cases h) fnConfigTypeText_row_tie rfl ⟨rfl, rfl⟩ (by kernel_rfl) rfl plain_FnConfigTypeText (by kernel_rfl)
#print axioms holds_FnConfigTypeText
end Go.Proofs.YthelpljefckgkaaDoor
