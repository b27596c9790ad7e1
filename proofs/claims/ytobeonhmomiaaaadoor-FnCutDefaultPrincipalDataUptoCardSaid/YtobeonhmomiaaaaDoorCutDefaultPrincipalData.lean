/-
  What the reference writes of a tree as a DefaultPrincipalData is an error where it ends ahead of its end; for every input that the row lets in, of bulk at most 1048576 (the variable ErrNotEnoughData as the program lays it).
-/
import Derived.Test.YtobeonhmomiaaaaDoorMsgDefaultPrincipalData
import Derived.Test.YtobeonhmomiaaaaDoorAgFacts
import Derived.Test.YtobeonhmomiaaaaDoorAgTree
import Derived.Test.YtobeonhmomiaaaaDoorRAgainK
import Derived.Test.YtobeonhmomiaaaaDoorSpecK
import Derived.Test.YtobeonhmomiaaaaDoorCards
import Derived.Test.YtobeonhmomiaaaaDoorTie
set_option linter.unusedVariables false
set_option linter.unusedSimpArgs false
namespace Go.Proofs.YtobeonhmomiaaaaDoor
open Go Go.RowKit Go.Proofs.Eng
set_option maxRecDepth 20000
set_option maxHeartbeats 4000000

def F_DefaultPrincipalData : List Fld := [.mk 8 0 (-1) (-1) (-1) 0 0 [], .mk 8 0 (-1) (-1) (-1) 0 0 [], .mk 0 0 (-1) (-1) (-1) 0 0 []]
theorem c_DefaultPrincipalData (w : World) : Calls Tryd.prog 21 #[] w fun e w' => ∃ v, e = .returned (.agg #[v, .int .i64 0]) ∧ FRep w' (fun b => b < w.heap.size) v F_DefaultPrincipalData ∧ Below w.heap.size w w' := by
  refine calls_wk (args := []) Tryd.func21 rfl rfl ?_
  refine wk_seq ?_
  refine wk_reg (id := 0) ?_
  refine wk_alloc (t := 31) (i := Tryd.t31) (by kernel_rfl) rfl rfl ?_
  refine wk_nil ?_
  refine wk_seq ?_
  refine wk_reg (id := 1) ?_
  have hB0 : Below w.heap.size w (w.alloc (.cells (Value.agg #[.slice none 0 0, .int .i64 0]).cells 31)) := below1 _ _
  have hM0 : (w.alloc (.cells (Value.agg #[.slice none 0 0, .int .i64 0]).cells 31)).heap[w.heap.size]? = some (.cells #[.slice none 0 0, .int .i64 0] 31 (0, 0)) := heap_alloc_last _ _
  refine wk_build (vs := [(0, .int .i64 8), (2, .int .i64 (-1)), (3, .int .i64 (-1)), (4, .int .i64 (-1))]) (cells := #[.int .i64 8, .int .i64 0, .int .i64 (-1), .int .i64 (-1), .int .i64 (-1), .int .i64 0, .int .i64 0, .slice none 0 0]) rfl (by kernel_rfl) rfl ?_
  refine wk_build (vs := [(0, .int .i64 8), (2, .int .i64 (-1)), (3, .int .i64 (-1)), (4, .int .i64 (-1))]) (cells := #[.int .i64 8, .int .i64 0, .int .i64 (-1), .int .i64 (-1), .int .i64 (-1), .int .i64 0, .int .i64 0, .slice none 0 0]) rfl (by kernel_rfl) rfl ?_
  refine wk_build (vs := [(0, .int .i64 0), (2, .int .i64 (-1)), (3, .int .i64 (-1)), (4, .int .i64 (-1))]) (cells := #[.int .i64 0, .int .i64 0, .int .i64 (-1), .int .i64 (-1), .int .i64 (-1), .int .i64 0, .int .i64 0, .slice none 0 0]) rfl (by kernel_rfl) rfl ?_
  refine wk_buildS (e := 47) (vs := [(0, .agg #[.int .i64 8, .int .i64 0, .int .i64 (-1), .int .i64 (-1), .int .i64 (-1), .int .i64 0, .int .i64 0, .slice none 0 0]), (1, .agg #[.int .i64 8, .int .i64 0, .int .i64 (-1), .int .i64 (-1), .int .i64 (-1), .int .i64 0, .int .i64 0, .slice none 0 0]), (2, .agg #[.int .i64 0, .int .i64 0, .int .i64 (-1), .int .i64 (-1), .int .i64 (-1), .int .i64 0, .int .i64 0, .slice none 0 0])]) (cells := (fcells F_DefaultPrincipalData [.slice none 0 0, .slice none 0 0, .slice none 0 0]).toArray) (ie := Tryd.t47) (zv := .agg #[.int .i64 0, .int .i64 0, .int .i64 0, .int .i64 0, .int .i64 0, .int .i64 0, .int .i64 0, .slice none 0 0]) rfl Tryd.underlying29 (by kernel_rfl) rfl rfl rfl (by kernel_rfl) rfl ?_
  refine wk_build (vs := [(1, .int .i64 0), (0, .slice (some ⟨(w.alloc (.cells (Value.agg #[.slice none 0 0, .int .i64 0]).cells 31)).heap.size, 0, none⟩) 3 3)]) (cells := #[.slice (some ⟨(w.alloc (.cells (Value.agg #[.slice none 0 0, .int .i64 0]).cells 31)).heap.size, 0, none⟩) 3 3, .int .i64 0]) rfl (by kernel_rfl) rfl ?_
  have hMS := ((below1 (w.alloc (.cells (Value.agg #[.slice none 0 0, .int .i64 0]).cells 31)) (.cells ((fcells F_DefaultPrincipalData [.slice none 0 0, .slice none 0 0, .slice none 0 0]).toArray) 47)).block _ (lt_of_some hM0)).trans hM0
  have hr := frep_build (fs := F_DefaultPrincipalData) (X := fun b => b < w.heap.size + 1) (vs := [.slice none 0 0, .slice none 0 0, .slice none 0 0]) (Nat.not_lt.2 (lt_of_some hM0)) (heap_alloc_last (w.alloc (.cells (Value.agg #[.slice none 0 0, .int .i64 0]).cells 31)) (.cells ((fcells F_DefaultPrincipalData [.slice none 0 0, .slice none 0 0, .slice none 0 0]).toArray) 47)) rfl rfl (And.intro .nil (And.intro .nil (And.intro .nil trivial)))
  refine wk_storeRow (i := Tryd.t31) (cs := #[.slice (some ⟨(w.alloc (.cells (Value.agg #[.slice none 0 0, .int .i64 0]).cells 31)).heap.size, 0, none⟩) 3 3, .int .i64 0]) rfl rfl hMS (by kernel_rfl) rfl rfl (one2 rfl rfl) ?_
  refine wk_nil ?_
  refine wk_retc r0 rfl rfl (loadVar_cells (vs := [.slice (some ⟨(w.alloc (.cells (Value.agg #[.slice none 0 0, .int .i64 0]).cells 31)).heap.size, 0, none⟩) 3 3, .int .i64 0]) Tryd.underlying31 rfl (show Tryd.prog.info? 31 = some Tryd.t31 by kernel_rfl) rfl (cells_blk (setRow_heap _ _ _ _ _ _ hMS))) ⟨_, rfl, ?_, ?_⟩
  · exact (hr.keep (keeps_setRow (X := fun b => b < w.heap.size + 1) (b := w.heap.size) _ (Nat.lt_succ_self w.heap.size) _)).mono (fun b _ h => Nat.lt_succ_of_lt h)
  · exact below_setRow (hB0.trans ((below1 _ _).mono hB0.size)) (Nat.le_refl _) _
theorem okm_DefaultPrincipalData_0 : isNilS (mF 2 ((0 : Nat) : Int) (decide ((0 : Int) ≤ 0) && decide ((0 : Int) ≤ ((0 : Nat) : Int))) F_DefaultPrincipalData (cls_DefaultPrincipalData ((0 : Nat) : Int))) = true := by kernel_rfl
theorem okm_DefaultPrincipalData (v : Nat) (h : v ≤ 0) : isNilS (mF 2 (v : Int) (decide ((0 : Int) ≤ 0) && decide ((0 : Int) ≤ (v : Int))) F_DefaultPrincipalData (cls_DefaultPrincipalData (v : Int))) = true := by
  obtain rfl : v = 0 := by omega
  exact okm_DefaultPrincipalData_0
/-! ## the law -/
theorem walk_CutDefaultPrincipalData {E : Value} (hE : ∃ u q, E = .iface u q) (a0 : Int) (w0 : (Lit.int .u8 a0).wf = true) (a2 : Int) (w2 : (Lit.int .u16 a2).wf = true) (w : World) (vs : List Value) (t : Tree) (n : Nat) (hT : TRep w (fun _ => False) vs t) (hok : TOk G32 t) (hB : TB t n) (hn : n ≤ 1048576) (hg : w.cell? ⟨1, 0, none⟩ = some E) : Calls Tryd.prog 6 #[.int .u8 a0, .agg vs.toArray, .int .u16 a2] w fun e w' => e = .returned (.bool true) ∧ Below w.heap.size w w' := by
  obtain ⟨h0, h1⟩ := bounds_u8 w0
  obtain ⟨h2, h3⟩ := bounds_u16 w2
  obtain ⟨ver, hvr0, hm⟩ := rem_nat a0 1 h0 (by decide)
  have e0 : IntKind.i64.wrap a0 = a0 := i64w a0 (by omega) (by omega)
  have hvr : (IntKind.i64.wrap a0).tmod 1 = (ver : Int) := by rw [e0]; exact hvr0
  have hwv : IntKind.i16.wrap (ver : Int) = ver := i16w _ (by omega) (by omega)
  obtain ⟨cs, hcs⟩ := cs_DefaultPrincipalData
  have hS := clsS_DefaultPrincipalData hcs
  have hS1 : SOk (cls_DefaultPrincipalData (ver : Int)) 0 (setAt cs 0 [.int .i16 (ver : Int)]).length = true := by
    rw [setAt_length (by rw [(cvs0_ok hcs).2.1.1]; exact (show 1 ≤ ks_DefaultPrincipalData.length by decide)), (cvs0_ok hcs).2.1.1]
    exact SOk.lo (clsO_DefaultPrincipalData _) (Nat.zero_le _)
  obtain ⟨out, hRW, _, _⟩ := again_law hS1 (okm_DefaultPrincipalData ver (by omega)) hok
  have hlen := part_le 2 (ver : Int) (decide ((0 : Int) ≤ 0) && decide ((0 : Int) ≤ (ver : Int))) F_DefaultPrincipalData t n (by kernel_rfl) hB
  have hlb0 : (sPart 2 (ver : Int) (decide ((0 : Int) ≤ 0) && decide ((0 : Int) ≤ (ver : Int))) F_DefaultPrincipalData t).length < 1900000000 := by
    have hk : wB 2 F_DefaultPrincipalData ≤ 1800 := Nat.le_of_ble_eq_true (by kernel_rfl)
    have := Nat.mul_le_mul hk hn
    omega
  have hag := againK_ok hS hwv hRW
  have hcut := fun m h hl => cutK_ok hS hwv hRW m h hl
  obtain ⟨b, hbd⟩ : ∃ b, b = be 2 (ver : Int) ++ sWrite 2 F_DefaultPrincipalData 0 (ver : Int) t := ⟨_, rfl⟩
  have hbd2 : be 2 (ver : Int) ++ sPart 2 (ver : Int) (decide ((0 : Int) ≤ 0) && decide ((0 : Int) ≤ (ver : Int))) F_DefaultPrincipalData t = b := hbd.symm
  have hlb : b.length < 2000000000 := by rw [← hbd2, List.length_append, be_length]; omega
  have hb0 : b.length ≠ 0 := by rw [← hbd2, List.length_append, be_length]; omega
  rw [hbd2] at hag hcut
  clear hRW hlen hbd2
  have hgl : 1 < w.heap.size := lt_of_cell hg
  have hT0 := hT
  obtain ⟨N, Sb, nl, Lt, U, v1, v2, v3, cells, hN, hSr, hL, hU, hr⟩ := hT
  have hT1 := heap_alloc_new w (.cells #[.int .i64 N, v1, .bool nl, v2, v3] 26)
  have hb1 := below1 w (.cells #[.int .i64 N, v1, .bool nl, v2, v3] 26)
  refine calls_wk (args := [.int .u8 a0, .agg #[.int .i64 N, v1, .bool nl, v2, v3], .int .u16 a2]) Tryd.func6 rfl rfl ?_
  refine wk_seq ?_
  refine wk_reg (id := 0) ?_
  refine wk_box rfl rfl ?_
  refine wk_assign rfl rfl ?_
  refine wk_nil ?_
  refine wk_seq ?_
  refine wk_seq ?_
  refine wk_reg (id := 1) ?_
  refine wk_loadA (i := Tryd.t26) rfl Tryd.underlying26 rfl (by kernel_rfl) rfl (by exact cells_new) rfl ?_
  first
    | refine wk_loadA (i := Tryd.t26) rfl Tryd.underlying26 rfl (by kernel_rfl) (vs := [.int .i64 N, v1, .bool nl, v2, v3]) rfl (cells_blk hT1) rfl ?_
    | skip
  skip
  refine wk_call Tryd.call9 (vs := [.agg #[.int .i64 N, v1, .bool nl, v2, v3]]) rfl rfl ((fits2 _ (fun _ => False) [.int .i64 N, v1, .bool nl, v2, v3] (.mk N Sb nl Lt U) (hT0.keep (keeps_below hb1 (Nat.le_refl _)))).mono ?_)
  rintro e w2 ⟨bf, rfl, hbf⟩
  refine ⟨_, rfl, ?_⟩
  have hb2 := hb1.trans (hbf.mono hb1.size)
  refine wk_not rfl rfl ?_
  refine wk_nil ?_
  cases bf with
  | false =>
    skip
    refine wk_condT rfl ?_
    refine wk_seq ?_
    refine wk_reg (id := 2) ?_
    refine wk_assign rfl rfl ?_
    refine wk_nil ?_
    exact wk_ret r0 rfl rfl ⟨rfl, hb2⟩
  | true =>
    have hT3 := (hbf.block _ (lt_of_some hT1)).trans hT1
    skip
    refine wk_condF rfl ?_
    refine wk_skip ?_
    refine wk_seq ?_
    refine wk_draw (fun w' => w'.heap[w.heap.size]? = some (.cells #[.int .i64 N, v1, .bool nl, v2, v3] 26 (0, 0))) [(1, true), (2, true), (3, true), (4, true), (0, false), (5, false), (6, true)] mixed pq0 (by kernel_rfl) (by kernel_rfl) (by kernel_rfl) (fun w5 h5 _ => by rw [h5]; exact hT3) ?_
    intro w4 h4 hb4
    have hT4 : w4.heap[w.heap.size]? = some (.cells #[.int .i64 N, v1, .bool nl, v2, v3] 26 (0, 0)) := by rw [h4]; exact hT3
    have hb04 := hb2.trans (hb4.mono hb2.size)
    refine wd_move rfl rfl rfl ?_
    refine wd_conv rfl rfl Tryd.underlying5 Tryd.underlying3 rfl ?_
    refine wd_rem rfl rfl rfl (by decide) rfl ?_
    refine wd_loadA (ti := Tryd.t26) rfl rfl Tryd.underlying26 rfl (by kernel_rfl) (vs := [.int .i64 N, v1, .bool nl, v2, v3]) rfl (fun w' hS => cells_blk hS) rfl ?_
    refine wd_call rfl Tryd.call21 (vs := []) rfl rfl ((c_DefaultPrincipalData w4).mono ?_)
    rintro e w5 ⟨fv, rfl, hF, hb5⟩
    have hT5 := (hb5.block _ (lt_of_some hT4)).trans hT4
    have hb05 := hb04.trans (hb5.mono hb04.size)
    refine ⟨_, rfl, hT5, ?_⟩
    refine wd_call rfl Tryd.call10 (vs := [.agg #[fv, .int .i64 0], .int .i64 (ver : Int), .agg #[.int .i64 N, v1, .bool nl, v2, v3]]) (congrArg (fun z => [some (Value.agg #[fv, .int .i64 0]), some (Value.int .i64 z), some (Value.agg #[.int .i64 N, v1, .bool nl, v2, v3])]) hvr) rfl
      ((kept_any 2 w5 (fun _ => False) fv F_DefaultPrincipalData 0 ver [.int .i64 N, v1, .bool nl, v2, v3] (.mk N Sb nl Lt U) (hF.mono (fun _ _ h => h.elim)) (hT0.keep (keeps_below hb05 (Nat.le_refl _))) (by kernel_rfl) hok (by rw [← hbd, lim_eq]; omega)).mono ?_)
    rintro e w6 ⟨d6, rfl, ho6, hb6⟩
    rw [← hbd] at ho6
    have hb06 := hb05.trans (hb6.mono hb05.size)
    refine ⟨_, rfl, (hb6.block _ (lt_of_some hT5)).trans hT5, ?_⟩
    refine wd_assign rfl rfl rfl ?_
    refine wd_done ?_
    have hr6 : BytesRep0 w6 (fun _ => False) d6 b := (OwnC.of_own ho6).bytes (fun _ _ _ h => h)
    obtain ⟨A6, c6, rfl, _⟩ := hr6.form
    refine wk_seq ?_
    refine wk_reg (id := 4) ?_
    refine wk_move rfl rfl ?_
    refine wk_call Tryd.call22 (vs := [.slice A6 b.length c6]) rfl rfl
      ((c_Again_DefaultPrincipalData hE hcs w6 (fun _ => False) (.slice A6 b.length c6) b hr6 hlb ((hb06.cell (p := ⟨1, 0, none⟩) hgl).trans hg)).mono ?_)
    rintro e w7 ⟨d7, ok7, rfl, hb7, hyes, _⟩
    refine ⟨_, rfl, ?_⟩
    obtain ⟨h7, ho7⟩ := hyes b hag
    subst h7
    have hb07 := hb06.trans (hb7.mono hb06.size)
    have hr67 := hr6.keep (keeps_below hb7 (Nat.le_refl _))
    obtain ⟨m, hm1, hm2⟩ := rem_nat a2 b.length h2 hb0
    have e2 : IntKind.i64.wrap a2 = a2 := i64w a2 (by omega) (by omega)
    have hmm : (IntKind.i64.wrap a2).tmod (b.length : Int) = (m : Int) := by rw [e2]; exact hm1
    have hc6 := hr67.le
    refine wk_move rfl rfl ?_
    refine wk_extract rfl rfl rfl ?_
    refine wk_extract rfl rfl rfl ?_
    refine wk_assign rfl rfl ?_
    refine wk_assign rfl rfl ?_
    refine wk_nil ?_
    refine wk_seq ?_
    refine wk_reg (id := 5) ?_
    refine wk_move rfl rfl ?_
    refine wk_move rfl rfl ?_
    refine wk_convV rfl Tryd.underlying41 Tryd.underlying3 (by with_reducible assumption) rfl ?_
    refine wk_move rfl rfl ?_
    refine wk_slen rfl Tryd.underlying22 rfl ?_
    refine wk_rem rfl rfl (by omega) rfl ?_
    skip
    refine wk_sliceH (m := m) (i := Tryd.t5) rfl (congrArg (fun z => some (Value.int .i64 z)) hm1) Tryd.underlying22 (by kernel_rfl) (by omega) rfl ?_
    skip
    refine wk_call Tryd.call22 (vs := [.slice A6 m c6]) rfl rfl
      ((c_Again_DefaultPrincipalData hE hcs w7 (fun _ => False) (.slice A6 m c6) (b.take m) (hr67.cut hm2) (by rw [List.length_take]; omega) ((hb07.cell (p := ⟨1, 0, none⟩) hgl).trans hg)).mono ?_)
    rintro e w9 ⟨d9, ok9, rfl, hb9, _, hno⟩
    have h9 := hno (hcut m hm2 hlb)
    subst h9
    refine ⟨_, rfl, ?_⟩
    refine wk_move rfl rfl ?_
    refine wk_extract rfl rfl rfl ?_
    refine wk_extract rfl rfl rfl ?_
    refine wk_assign rfl rfl ?_
    refine wk_assign rfl rfl ?_
    refine wk_nil ?_
    refine wk_seq ?_
    refine wk_reg (id := 6) ?_
    refine wk_move rfl rfl ?_
    refine wk_move rfl rfl ?_
    refine wk_gT rfl ?_; refine wk_move rfl rfl ?_
    refine wk_gT rfl ?_; refine wk_not rfl rfl ?_
    refine wk_pick rfl rfl rfl rfl ?_
    refine wk_assign rfl rfl ?_
    refine wk_nil ?_
    exact wk_ret r0 rfl rfl ⟨rfl, hb07.trans (hb9.mono hb07.size)⟩
open Go.ChangeShapes Go.WideShapes Go.ChangeAt in
theorem reads_FnCutDefaultPrincipalData (os : Os) {H : Type} (enc : TypeId × Value → H) : ∃ places, DataW.whole enc Tryd.prog ((laidWorld os).forCall (fun _ _ => 0) ⟨#[], #[.int .u8 0, .agg #[.int .i64 0, .slice none 0 0, .bool false, .slice none 0 0, .slice none 0 0], .int .u16 0], []⟩).memory Tryd.f6.params.toList Rows.fnCutDefaultPrincipalDataSpec.vars false #[.int .u8 0, .agg #[.int .i64 0, .slice none 0 0, .bool false, .slice none 0 0, .slice none 0 0], .int .u16 0].toList 12 = some ([.lit (.int .u8 0), .agg [.lit (.int .i64 0), .nil, .lit (.bool false), .nil, .nil], .lit (.int .u16 0)], [], places) :=
  ⟨[], by kernel_rfl⟩
open Go.ChangeShapes Go.WideShapes Go.ChangeAt in
set_option maxRecDepth 100000 in
set_option linter.unusedVariables false in
theorem lifted_FnCutDefaultPrincipalData (os : Os) (started : os.Started) (H : Type) (enc : TypeId × Value → H) (F : Stop.Interp) :
    ReturnsInHanded {} Tryd.checked os 6 .any ((Rows.OpenSpec.upto Rows.fnCutDefaultPrincipalDataSpec).preRow enc Tryd.prog Tryd.f6 Rows.fnCutDefaultPrincipalDataUptoRow.domain false Rows.fnCutDefaultPrincipalDataUptoRow.laid) (((Rows.OpenSpec.upto Rows.fnCutDefaultPrincipalDataSpec).at F).post enc Tryd.prog Tryd.f6 false true false false) := by
  obtain ⟨places, hx⟩ := reads_FnCutDefaultPrincipalData os enc
  refine returnsInHanded_of_row (C := Tryd.checked) (s := Rows.OpenSpec.upto Rows.fnCutDefaultPrincipalDataSpec) own started (by kernel_rfl) Tryd.func6
    (witness_row_at (enc := enc) (C := Tryd.checked) false (laidWorld os) #[.int .u8 0, .agg #[.int .i64 0, .slice none 0 0, .bool false, .slice none 0 0, .slice none 0 0], .int .u16 0] rfl (by kernel_rfl) (by kernel_rfl) (by kernel_rfl)
      (OpenSpec.preRow_of_cond 12 hx (by kernel_rfl) (fun k hk => by cases hk; kernel_rfl) (by kernel_rfl) (laid_met os _))) ?_
  intro W base args ds gs before hval0 hW _ hcond hsz hL hsh _
  have hval : ∀ (j : Nat) t v, Tryd.f6.params[j]? = some t → args[j]? = some v → Value.okWide Tryd.prog W .any base t v := hval0
  have hW' := hW
  obtain ⟨p, q, hA0, hV, rfl, hfz, hnd⟩ := hW
  have hA : DataW.TrodAll enc Tryd.prog W 0 (fun _ => true) true Tryd.f6.params.toList args.toList ds p := hA0
  rw [Tryd.params6] at hA hval
  obtain ⟨E, hE, hg⟩ := sentinel hL
  obtain ⟨v0, vs0, d0, ds0, p0, q0, hargs, rfl, rfl, h0, r0⟩ := trodAll_cons hA
  obtain ⟨v1, vs1, d1, ds1, p1, q1, rfl, rfl, rfl, h1, r1⟩ := trodAll_cons r0
  obtain ⟨v2, vs2, d2, ds2, p2, q2, rfl, rfl, rfl, h2, r2⟩ := trodAll_cons r1
  obtain ⟨rfl, rfl, rfl⟩ := trodAll_nil r2
  obtain rfl : args = #[v0, v1, v2] := by cases args; simp_all
  obtain ⟨rfl, rfl⟩ := trodVars_none hV
  obtain ⟨a0, rfl, rfl, rfl, w0⟩ := open_int Tryd.underlying5 (hval 0 5 v0 rfl rfl) h0
  obtain ⟨ct, rfl, _⟩ := okWide_struct Tryd.underlying26 (hval 1 26 v1 rfl rfl)
  obtain ⟨vs, rfl⟩ : ∃ l : List Value, ct = l.toArray := ⟨ct.toList, by simp⟩
  obtain ⟨a2, rfl, rfl, rfl, w2⟩ := open_int Tryd.underlying41 (hval 2 41 v2 rfl rfl) h2
  have hbk : Rows.uptoBulkAll _ ≤ 1048576 := of_decide_eq_true (hcond Rows.uptoSmall rfl)
  have hbk1 : Rows.uptoBulk d1 ≤ 1048576 := by
    simp only [List.cons_append, List.nil_append, Rows.uptoBulkAll] at hbk
    omega
  obtain ⟨fu, hfu⟩ := id h1
  obtain ⟨t, n, hT, hok, hB, hn⟩ := tree_in fu vs (d1, p1) hfu hbk1
  clear hA0 hval0
  simp only [List.append_nil] at hW'
  refine (walk_CutDefaultPrincipalData hE a0 w0 a2 w2 W vs t n hT hok hB (Nat.le_trans hn hbk1) hg).mono fun e W' ⟨he, hb⟩ => ?_
  subst he
  have hlt : ∀ x ∈ p1, x.block < W.heap.size := fun x hx => hW'.lt x (by simp [hx])
  exact ⟨_, rfl, post_of_below (pa := [] ++ (p1 ++ ([] ++ []))) (pv := []) hW' (fun _ _ _ => (trodAll_cons_mk (shut_bool Tryd.underlying4 _) trodAll_mk0))
    (fun sp hsp => (trodAll_cons_mk (shut_int Tryd.underlying5 w0) (trodAll_cons_mk (WideElems.Trod_stays P_laid (by kernel_rfl) (of_decide_eq_true (by kernel_rfl)) h1 (fun x hx => hb.same (hlt x hx)) (fun x hx => hsp x (by simp [hx]))) (trodAll_cons_mk (shut_int Tryd.underlying41 w2) trodAll_mk0)))) (fun _ _ => rfl) (by simp)
    hb (ok_one (by kernel_rfl) rfl (okWide_bool_mk Tryd.underlying4 _))⟩
theorem named_FnCutDefaultPrincipalData : Tryd.prog.funcNamed Rows.fnCutDefaultPrincipalDataUptoRow.func = some 6 := by kernel_rfl
theorem inPlace_FnCutDefaultPrincipalData : (Rows.fnCutDefaultPrincipalDataUptoRow.inPlace == Tryd.prog.inPlace 6) = true := by kernel_rfl
theorem unfollowed_FnCutDefaultPrincipalData : (Rows.fnCutDefaultPrincipalDataUptoRow.unfollowed == Tryd.prog.unfollowed 6) = true := by kernel_rfl
theorem recurses_FnCutDefaultPrincipalData : (Rows.fnCutDefaultPrincipalDataUptoRow.recurses == Tryd.prog.recurses 6) = true := by kernel_rfl
theorem vars_FnCutDefaultPrincipalData : (Rows.fnCutDefaultPrincipalDataUptoRow.named == Tryd.prog.varsNamed 6) = true := by kernel_rfl
theorem joined_FnCutDefaultPrincipalData : joinedFacts Tryd.prog 6 Tryd.f6 (Rows.OpenSpec.upto Rows.fnCutDefaultPrincipalDataSpec).bare Rows.fnCutDefaultPrincipalDataUptoRow = true := by
  unfold joinedFacts
  iterate 4 refine and2 ?_ (by as_aux_lemma => kernel_rfl)
  refine and2 (and2 (and2 (and2 ?_ P_heard) P_enter) P_lifts) P_make
  refine and2 (and2 ?_ P_keys) (by as_aux_lemma => kernel_rfl)
  iterate 9 refine and2 ?_ (by as_aux_lemma => kernel_rfl)
  refine and2 (and2 (and2 (and2 ?_ inPlace_FnCutDefaultPrincipalData) unfollowed_FnCutDefaultPrincipalData) recurses_FnCutDefaultPrincipalData) vars_FnCutDefaultPrincipalData
  iterate 6 refine and2 ?_ (by as_aux_lemma => kernel_rfl)
  refine and2 (and2 ?_ P_laid) P_maps
  kernel_rfl
theorem said_FnCutDefaultPrincipalData : Rows.FnCutDefaultPrincipalDataUptoSaid :=
  OpenClaim.holds_of_cond 6 Tryd.f6 rfl rfl rfl rfl rfl rfl rfl ⟨rfl, rfl, rfl, rfl, rfl⟩ rfl rfl rfl rfl rfl named_FnCutDefaultPrincipalData Tryd.func6 joined_FnCutDefaultPrincipalData
    (of_decide_eq_true (by as_aux_lemma => kernel_rfl)) (by unfold Func.isWrapper; first | (rw [if_pos (by decide +kernel)]; kernel_rfl) | (rw [if_neg (by decide +kernel)]; exact ⟨rfl, rfl⟩))
    (fun os started H enc _ F => by rw [OpenClaim.pre_eq_preRow]; exact lifted_FnCutDefaultPrincipalData os started H enc F)
theorem looks_FnCutDefaultPrincipalData : false = Tryd.pinned.checked.prog.looks [] := by kernel_rfl
theorem plain_FnCutDefaultPrincipalData (f : FuncId) (fn : Func) (hf : Tryd.pinned.checked.prog.funcNamed Rows.fnCutDefaultPrincipalDataUptoRow.func = some f) (hfn : Tryd.pinned.checked.prog.funcs[f]? = some fn) :
    false = Tryd.pinned.checked.prog.looks [] ∧ ∀ (j : Nat) t, fn.params[j]? = some t → Tryd.pinned.checked.prog.wantsStandIn t = false := by
  obtain rfl : f = 6 := Option.some.inj (hf.symm.trans named_FnCutDefaultPrincipalData)
  obtain rfl : fn = Tryd.f6 := (Option.some.inj (Tryd.func6.symm.trans hfn)).symm
  refine ⟨looks_FnCutDefaultPrincipalData, fun j t ht => ?_⟩
  rw [Tryd.params6] at ht
  have h : t = 5 ∨ t = 26 ∨ t = 41 := by simpa using Array.mem_of_getElem? ht
  rcases h with rfl | rfl | rfl
  · exact (show Tryd.prog.wantsStandIn 5 = false by kernel_rfl)
  · exact (show Tryd.prog.wantsStandIn 26 = false by kernel_rfl)
  · exact (show Tryd.prog.wantsStandIn 41 = false by kernel_rfl)
/-- The card. -/
theorem holds_FnCutDefaultPrincipalData : Rows.FnCutDefaultPrincipalDataUptoCardSaid :=
  Claim7.holds_tied_plain_at .later [] _ _ _ _ said_FnCutDefaultPrincipalData (fun _ h => by cases h) (by kernel_rfl) (fun _ h => by cases h) fnCutDefaultPrincipalDataUpto_row_tie rfl ⟨rfl, rfl⟩ (by kernel_rfl) rfl plain_FnCutDefaultPrincipalData (by kernel_rfl)
#print axioms holds_FnCutDefaultPrincipalData
end Go.Proofs.YtobeonhmomiaaaaDoor
