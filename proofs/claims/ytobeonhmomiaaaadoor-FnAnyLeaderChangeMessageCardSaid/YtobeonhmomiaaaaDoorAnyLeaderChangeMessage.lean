/-
  What is read of any bytes as a LeaderChangeMessage is written as bytes that are read again, and written as the same; for every input that the row lets in (the variable ErrNotEnoughData as the program lays it).
-/
import Derived.Test.YtobeonhmomiaaaaDoorMsgLeaderChangeMessage
import Derived.Test.YtobeonhmomiaaaaDoorAgFacts
import Derived.Test.YtobeonhmomiaaaaDoorAgTree
import Derived.Test.YtobeonhmomiaaaaDoorRAgainK
import Derived.Test.YtobeonhmomiaaaaDoorSpecK
import Derived.Test.YtobeonhmomiaaaaDoorCards
import Derived.Test.YtobeonhmomiaaaaDoorTie
set_option linter.unusedVariables false
set_option linter.unusedSimpArgs false
namespace Go.Proofs.YtobeonhmomiaaaaDoor
open Go Go.RowKit Go.Proofs.Eng
set_option maxRecDepth 20000
set_option maxHeartbeats 4000000

def F_sLeaderChangeMessageVoter : List Fld := [.mk 3 0 (-1) (-1) (-1) 0 0 [], .mk 7 1 (-1) (-1) (-1) 0 0 []]
theorem c_sLeaderChangeMessageVoter (w : World) : Calls Tryd.prog 49 #[] w fun e w' => ∃ v, e = .returned v ∧ FRep w' (fun b => b < w.heap.size) v F_sLeaderChangeMessageVoter ∧ Below w.heap.size w w' := by
  refine calls_wk (args := []) Tryd.func49 rfl rfl ?_
  refine wk_seq ?_
  refine wk_reg (id := 0) ?_
  refine wk_assign rfl rfl ?_
  refine wk_nil ?_
  refine wk_seq ?_
  refine wk_reg (id := 1) ?_
  have hB0 := Below.refl w.heap.size w
  refine wk_build (vs := [(0, .int .i64 3), (2, .int .i64 (-1)), (3, .int .i64 (-1)), (4, .int .i64 (-1))]) (cells := #[.int .i64 3, .int .i64 0, .int .i64 (-1), .int .i64 (-1), .int .i64 (-1), .int .i64 0, .int .i64 0, .slice none 0 0]) rfl (by kernel_rfl) rfl ?_
  refine wk_build (vs := [(0, .int .i64 7), (1, .int .i64 1), (2, .int .i64 (-1)), (3, .int .i64 (-1)), (4, .int .i64 (-1))]) (cells := #[.int .i64 7, .int .i64 1, .int .i64 (-1), .int .i64 (-1), .int .i64 (-1), .int .i64 0, .int .i64 0, .slice none 0 0]) rfl (by kernel_rfl) rfl ?_
  refine wk_buildS (e := 47) (vs := [(0, .agg #[.int .i64 3, .int .i64 0, .int .i64 (-1), .int .i64 (-1), .int .i64 (-1), .int .i64 0, .int .i64 0, .slice none 0 0]), (1, .agg #[.int .i64 7, .int .i64 1, .int .i64 (-1), .int .i64 (-1), .int .i64 (-1), .int .i64 0, .int .i64 0, .slice none 0 0])]) (cells := (fcells F_sLeaderChangeMessageVoter [.slice none 0 0, .slice none 0 0]).toArray) (ie := Tryd.t47) (zv := .agg #[.int .i64 0, .int .i64 0, .int .i64 0, .int .i64 0, .int .i64 0, .int .i64 0, .int .i64 0, .slice none 0 0]) rfl Tryd.underlying29 (by kernel_rfl) rfl rfl rfl (by kernel_rfl) rfl ?_
  have hr := frep_build (fs := F_sLeaderChangeMessageVoter) (X := fun b => b < w.heap.size) (vs := [.slice none 0 0, .slice none 0 0]) (Nat.not_lt.2 hB0.size) (heap_alloc_last w (.cells ((fcells F_sLeaderChangeMessageVoter [.slice none 0 0, .slice none 0 0]).toArray) 47)) rfl rfl (And.intro .nil (And.intro .nil trivial))
  refine wk_assign rfl rfl ?_
  refine wk_nil ?_
  exact wk_ret r0 rfl rfl ⟨_, rfl, hr, hB0.trans ((below1 _ _).mono hB0.size)⟩
def F_LeaderChangeMessage : List Fld := [.mk 3 0 (-1) (-1) (-1) 0 0 [], .mk 11 0 (-1) (-1) (-1) 0 10 F_sLeaderChangeMessageVoter, .mk 11 0 (-1) (-1) (-1) 0 10 F_sLeaderChangeMessageVoter]
theorem c_LeaderChangeMessage (w : World) : Calls Tryd.prog 24 #[] w fun e w' => ∃ v, e = .returned (.agg #[v, .int .i64 0]) ∧ FRep w' (fun b => b < w.heap.size) v F_LeaderChangeMessage ∧ Below w.heap.size w w' := by
  refine calls_wk (args := []) Tryd.func24 rfl rfl ?_
  refine wk_seq ?_
  refine wk_reg (id := 0) ?_
  refine wk_alloc (t := 31) (i := Tryd.t31) (by kernel_rfl) rfl rfl ?_
  refine wk_nil ?_
  refine wk_seq ?_
  refine wk_reg (id := 1) ?_
  have hB0 : Below w.heap.size w (w.alloc (.cells (Value.agg #[.slice none 0 0, .int .i64 0]).cells 31)) := below1 _ _
  have hM0 : (w.alloc (.cells (Value.agg #[.slice none 0 0, .int .i64 0]).cells 31)).heap[w.heap.size]? = some (.cells #[.slice none 0 0, .int .i64 0] 31 (0, 0)) := heap_alloc_last _ _
  refine wk_build (vs := [(0, .int .i64 3), (2, .int .i64 (-1)), (3, .int .i64 (-1)), (4, .int .i64 (-1))]) (cells := #[.int .i64 3, .int .i64 0, .int .i64 (-1), .int .i64 (-1), .int .i64 (-1), .int .i64 0, .int .i64 0, .slice none 0 0]) rfl (by kernel_rfl) rfl ?_
  refine wk_call Tryd.call49 (vs := []) rfl rfl ((c_sLeaderChangeMessageVoter _).mono ?_)
  rintro e w1 ⟨v1, rfl, hf1, hb1⟩
  refine ⟨_, rfl, ?_⟩
  obtain ⟨A1, c1, rfl⟩ := hf1.form
  have hB1 := hB0.trans (hb1.mono hB0.size)
  have hM1 := (hb1.block _ (lt_of_some hM0)).trans hM0
  refine wk_build (vs := [(0, .int .i64 11), (2, .int .i64 (-1)), (3, .int .i64 (-1)), (4, .int .i64 (-1)), (6, .int .i64 10), (7, .slice A1 F_sLeaderChangeMessageVoter.length c1)]) (cells := #[.int .i64 11, .int .i64 0, .int .i64 (-1), .int .i64 (-1), .int .i64 (-1), .int .i64 0, .int .i64 10, .slice A1 F_sLeaderChangeMessageVoter.length c1]) rfl (by kernel_rfl) rfl ?_
  refine wk_call Tryd.call49 (vs := []) rfl rfl ((c_sLeaderChangeMessageVoter _).mono ?_)
  rintro e w2 ⟨v2, rfl, hf2, hb2⟩
  refine ⟨_, rfl, ?_⟩
  obtain ⟨A2, c2, rfl⟩ := hf2.form
  have hB2 := hB1.trans (hb2.mono hB1.size)
  have hM2 := (hb2.block _ (lt_of_some hM1)).trans hM1
  refine wk_build (vs := [(0, .int .i64 11), (2, .int .i64 (-1)), (3, .int .i64 (-1)), (4, .int .i64 (-1)), (6, .int .i64 10), (7, .slice A2 F_sLeaderChangeMessageVoter.length c2)]) (cells := #[.int .i64 11, .int .i64 0, .int .i64 (-1), .int .i64 (-1), .int .i64 (-1), .int .i64 0, .int .i64 10, .slice A2 F_sLeaderChangeMessageVoter.length c2]) rfl (by kernel_rfl) rfl ?_
  refine wk_buildS (e := 47) (vs := [(0, .agg #[.int .i64 3, .int .i64 0, .int .i64 (-1), .int .i64 (-1), .int .i64 (-1), .int .i64 0, .int .i64 0, .slice none 0 0]), (1, .agg #[.int .i64 11, .int .i64 0, .int .i64 (-1), .int .i64 (-1), .int .i64 (-1), .int .i64 0, .int .i64 10, .slice A1 F_sLeaderChangeMessageVoter.length c1]), (2, .agg #[.int .i64 11, .int .i64 0, .int .i64 (-1), .int .i64 (-1), .int .i64 (-1), .int .i64 0, .int .i64 10, .slice A2 F_sLeaderChangeMessageVoter.length c2])]) (cells := (fcells F_LeaderChangeMessage [.slice none 0 0, .slice A1 F_sLeaderChangeMessageVoter.length c1, .slice A2 F_sLeaderChangeMessageVoter.length c2]).toArray) (ie := Tryd.t47) (zv := .agg #[.int .i64 0, .int .i64 0, .int .i64 0, .int .i64 0, .int .i64 0, .int .i64 0, .int .i64 0, .slice none 0 0]) rfl Tryd.underlying29 (by kernel_rfl) rfl rfl rfl (by kernel_rfl) rfl ?_
  refine wk_build (vs := [(1, .int .i64 0), (0, .slice (some ⟨w2.heap.size, 0, none⟩) 3 3)]) (cells := #[.slice (some ⟨w2.heap.size, 0, none⟩) 3 3, .int .i64 0]) rfl (by kernel_rfl) rfl ?_
  have hMS := ((below1 w2 (.cells ((fcells F_LeaderChangeMessage [.slice none 0 0, .slice A1 F_sLeaderChangeMessageVoter.length c1, .slice A2 F_sLeaderChangeMessageVoter.length c2]).toArray) 47)).block _ (lt_of_some hM2)).trans hM2
  have hr := frep_build (fs := F_LeaderChangeMessage) (X := fun b => b < w.heap.size + 1) (vs := [.slice none 0 0, .slice A1 F_sLeaderChangeMessageVoter.length c1, .slice A2 F_sLeaderChangeMessageVoter.length c2]) (Nat.not_lt.2 (lt_of_some hM2)) (heap_alloc_last w2 (.cells ((fcells F_LeaderChangeMessage [.slice none 0 0, .slice A1 F_sLeaderChangeMessageVoter.length c1, .slice A2 F_sLeaderChangeMessageVoter.length c2]).toArray) 47)) rfl rfl (And.intro .nil (And.intro (((hf1.mono (fun b _ h => Nat.lt_of_lt_of_le h (lt_of_some hM0))).keep (keeps_below hb2 (Nat.le_refl _))).keep (keeps_below (below1 _ _) (Nat.le_refl _))) (And.intro ((hf2.mono (fun b _ h => Nat.lt_of_lt_of_le h (lt_of_some hM1))).keep (keeps_below (below1 _ _) (Nat.le_refl _))) trivial)))
  refine wk_storeRow (i := Tryd.t31) (cs := #[.slice (some ⟨w2.heap.size, 0, none⟩) 3 3, .int .i64 0]) rfl rfl hMS (by kernel_rfl) rfl rfl (one2 rfl rfl) ?_
  refine wk_nil ?_
  refine wk_retc r0 rfl rfl (loadVar_cells (vs := [.slice (some ⟨w2.heap.size, 0, none⟩) 3 3, .int .i64 0]) Tryd.underlying31 rfl (show Tryd.prog.info? 31 = some Tryd.t31 by kernel_rfl) rfl (cells_blk (setRow_heap _ _ _ _ _ _ hMS))) ⟨_, rfl, ?_, ?_⟩
  · exact (hr.keep (keeps_setRow (X := fun b => b < w.heap.size + 1) (b := w.heap.size) _ (Nat.lt_succ_self w.heap.size) _)).mono (fun b _ h => Nat.lt_succ_of_lt h)
  · exact below_setRow (hB2.trans ((below1 _ _).mono hB2.size)) (Nat.le_refl _) _
theorem okm_LeaderChangeMessage (v : Nat) (h : v ≤ 0) : isNilS (mF 3 (v : Int) (decide ((0 : Int) ≤ 0) && decide ((0 : Int) ≤ (v : Int))) F_LeaderChangeMessage (cls_LeaderChangeMessage (v : Int))) = true := by
  obtain rfl : v = 0 := by omega
  kernel_rfl
/-! ## the law -/
theorem walk_AnyLeaderChangeMessage {E : Value} (hE : ∃ u q, E = .iface u q) (w : World) (X : Nat → Prop) (sv : Value) (l : List UInt8) (hv : BytesRep0 w X sv l) (hg : w.cell? ⟨1, 0, none⟩ = some E) : Calls Tryd.prog 7 #[sv] w fun e w' => e = .returned (.bool true) ∧ Below w.heap.size w w' := by
  obtain ⟨A, c, rfl, _⟩ := hv.form
  obtain ⟨cs, hcs⟩ := cs_LeaderChangeMessage
  have hS := clsS_LeaderChangeMessage hcs
  have hgl : 1 < w.heap.size := lt_of_cell hg
  refine calls_wk (args := [.slice A l.length c]) Tryd.func7 rfl rfl ?_
  by_cases hl1 : l.length ≤ 1000
  · have c1 : cmp .gtr (l.length : Int) 2147483647 = some false := by simp [cmp]; omega
    have c2 : cmp .gtr (l.length : Int) 1000 = some false := by simp [cmp]; omega
    have hS1 : SOk (cls_LeaderChangeMessage ((0 : Nat) : Int)) 0 (setAt cs 0 [.int .i16 ((0 : Nat) : Int)]).length = true := by
      rw [setAt_length (by rw [(cvs0_ok hcs).2.1.1]; decide), (cvs0_ok hcs).2.1.1]
      exact SOk.lo (clsO_LeaderChangeMessage _) (Nat.zero_le _)
    obtain ⟨out, hRW, _, _⟩ := again_law hS1 (okm_LeaderChangeMessage 0 (by omega)) (TOk.zero g32_nil)
    have hag0 := againK_ok (x := ((0 : Nat) : Int)) hS rfl hRW
    have hl0 : (be 2 ((0 : Nat) : Int) ++ sWrite 3 F_LeaderChangeMessage 0 ((0 : Nat) : Int) .zero).length ≤ 100000 := Nat.le_of_ble_eq_true (by kernel_rfl)
    obtain ⟨b0, hbd⟩ : ∃ b, b = be 2 ((0 : Nat) : Int) ++ sWrite 3 F_LeaderChangeMessage 0 ((0 : Nat) : Int) .zero := ⟨_, rfl⟩
    have hbd2 : be 2 ((0 : Nat) : Int) ++ sPart 3 ((0 : Nat) : Int) (decide ((0 : Int) ≤ 0) && decide ((0 : Int) ≤ ((0 : Nat) : Int))) F_LeaderChangeMessage .zero = b0 := hbd.symm
    rw [hbd2] at hag0
    rw [← hbd] at hl0
    refine wk_seq ?_
    refine wk_reg (id := 0) ?_
    refine wk_assign rfl rfl ?_
    refine wk_nil ?_
    refine wk_seq ?_
    refine wk_seq ?_
    refine wk_reg (id := 1) ?_
    refine wk_move rfl rfl ?_
    refine wk_slen rfl Tryd.underlying22 rfl ?_
    refine wk_cmp rfl rfl (by with_reducible assumption) rfl ?_
    refine wk_nil ?_
    refine wk_condF rfl ?_
    refine wk_skip ?_
    refine wk_seq ?_
    refine wk_seq ?_
    refine wk_reg (id := 3) ?_
    refine wk_move rfl rfl ?_
    refine wk_slen rfl Tryd.underlying22 rfl ?_
    refine wk_cmp rfl rfl (by with_reducible assumption) rfl ?_
    refine wk_nil ?_
    refine wk_condF rfl ?_
    refine wk_skip ?_
    refine wk_seq ?_
    refine wk_reg (id := 5) ?_
    refine wk_call Tryd.call24 (vs := []) rfl rfl ((c_LeaderChangeMessage w).mono ?_)
    rintro e w1 ⟨fv, rfl, hF, hb1⟩
    refine ⟨_, rfl, ?_⟩
    refine wk_build0 (cells := (Tryd.t26.zero.getD undef).cells) (by kernel_rfl) rfl ?_
    refine wk_call Tryd.call10 (vs := [.agg #[fv, .int .i64 0], .int .i64 ((0 : Nat) : Int), .agg #[.int .i64 0, .slice none 0 0, .bool false, .slice none 0 0, .slice none 0 0]]) rfl rfl
      ((kept_any 3 w1 (fun _ => False) fv F_LeaderChangeMessage 0 ((0 : Nat) : Int) [.int .i64 0, .slice none 0 0, .bool false, .slice none 0 0, .slice none 0 0] .zero (hF.mono (fun _ _ h => h.elim)) (TRep.zero w1 (fun _ => False)) (by kernel_rfl) (TOk.zero g32_nil) (by rw [← hbd, lim_eq]; omega)).mono ?_)
    rintro e w2 ⟨d2, rfl, ho2, hb2⟩
    refine ⟨_, rfl, ?_⟩
    rw [← hbd] at ho2
    have hb02 := hb1.trans (hb2.mono hb1.size)
    have hr2 : BytesRep0 w2 (fun _ => False) d2 b0 := (OwnC.of_own ho2).bytes (fun _ _ _ h => h)
    skip
    refine wk_call Tryd.call23 (vs := [d2]) rfl rfl ((c_Again_LeaderChangeMessage hE hcs w2 (fun _ => False) d2 b0 hr2 (by omega) ((hb02.cell (p := ⟨1, 0, none⟩) hgl).trans hg)).mono ?_)
    rintro e w3 ⟨d3, ok3, rfl, hb3, hyes3, _⟩
    refine ⟨_, rfl, ?_⟩
    obtain ⟨h3, _⟩ := hyes3 b0 hag0
    subst h3
    have hb03 := hb02.trans (hb3.mono hb02.size)
    refine wk_move rfl rfl ?_
    refine wk_extract rfl rfl rfl ?_
    refine wk_extract rfl rfl rfl ?_
    refine wk_assign rfl rfl ?_
    refine wk_assign rfl rfl ?_
    refine wk_nil ?_
    refine wk_seq ?_
    refine wk_reg (id := 6) ?_
    refine wk_move rfl rfl ?_
    refine wk_call Tryd.call23 (vs := [.slice A l.length c]) rfl rfl ((c_Again_LeaderChangeMessage hE hcs w3 X (.slice A l.length c) l (hv.keep (keeps_below hb03 (Nat.le_refl _))) (by omega) ((hb03.cell (p := ⟨1, 0, none⟩) hgl).trans hg)).mono ?_)
    rintro e w4 ⟨d4, ok4, rfl, hb4, hyes, hno⟩
    refine ⟨_, rfl, ?_⟩
    have hb04 := hb03.trans (hb4.mono hb03.size)
    cases hag : againK cls_LeaderChangeMessage cs l with
    | none =>
      have h4 := hno hag
      subst h4
      refine wk_move rfl rfl ?_
      refine wk_extract rfl rfl rfl ?_
      refine wk_extract rfl rfl rfl ?_
      refine wk_assign rfl rfl ?_
      refine wk_assign rfl rfl ?_
      refine wk_nil ?_
      refine wk_seq ?_
      refine wk_seq ?_
      refine wk_reg (id := 7) ?_
      refine wk_move rfl rfl ?_
      refine wk_not rfl rfl ?_
      refine wk_move rfl rfl ?_
      refine wk_gT rfl ?_; refine wk_move rfl rfl ?_
      refine wk_gT rfl ?_; refine wk_not rfl rfl ?_
      refine wk_pick rfl rfl rfl rfl ?_
      refine wk_nil ?_
      refine wk_condT rfl ?_
      refine wk_seq ?_
      refine wk_reg (id := 8) ?_
      refine wk_move rfl rfl ?_
      refine wk_assign rfl rfl ?_
      refine wk_nil ?_
      exact wk_ret r0 rfl rfl ⟨rfl, hb04⟩
    | some b =>
      obtain ⟨h4, ho4⟩ := hyes b hag
      subst h4
      obtain ⟨hag2, hlen⟩ := anyK_ok hS hag (by omega)
      have hr4 : BytesRep0 w4 (fun _ => False) d4 b := (OwnC.of_own ho4).bytes (fun _ _ _ h => h)
      refine wk_move rfl rfl ?_
      refine wk_extract rfl rfl rfl ?_
      refine wk_extract rfl rfl rfl ?_
      refine wk_assign rfl rfl ?_
      refine wk_assign rfl rfl ?_
      refine wk_nil ?_
      refine wk_seq ?_
      refine wk_seq ?_
      refine wk_reg (id := 7) ?_
      refine wk_move rfl rfl ?_
      refine wk_not rfl rfl ?_
      refine wk_move rfl rfl ?_
      refine wk_gT rfl ?_; refine wk_move rfl rfl ?_
      refine wk_gT rfl ?_; refine wk_not rfl rfl ?_
      refine wk_pick rfl rfl rfl rfl ?_
      refine wk_nil ?_
      refine wk_condF rfl ?_
      refine wk_skip ?_
      refine wk_seq ?_
      refine wk_reg (id := 9) ?_
      refine wk_move rfl rfl ?_
      refine wk_call Tryd.call23 (vs := [d4]) rfl rfl ((c_Again_LeaderChangeMessage hE hcs w4 (fun _ => False) d4 b hr4 (by omega) ((hb04.cell (p := ⟨1, 0, none⟩) hgl).trans hg)).mono ?_)
      rintro e w5 ⟨d5, ok5, rfl, hb5, hyes5, _⟩
      refine ⟨_, rfl, ?_⟩
      obtain ⟨h5, ho5⟩ := hyes5 b hag2
      subst h5
      have hb05 := hb04.trans (hb5.mono hb04.size)
      have hr45 := hr4.keep (keeps_below hb5 (Nat.le_refl _))
      have hr5 : BytesRep0 w5 (fun _ => False) d5 b := (OwnC.of_own ho5).bytes (fun _ _ _ h => h)
      refine wk_move rfl rfl ?_
      refine wk_extract rfl rfl rfl ?_
      refine wk_extract rfl rfl rfl ?_
      refine wk_assign rfl rfl ?_
      refine wk_assign rfl rfl ?_
      refine wk_nil ?_
      refine wk_seq ?_
      refine wk_reg (id := 10) ?_
      refine wk_move rfl rfl ?_
      refine wk_move rfl rfl ?_
      refine wk_gT rfl ?_; refine wk_move rfl rfl ?_
      refine wk_gT rfl ?_; refine wk_move rfl rfl ?_
      refine wk_gT rfl ?_
      refine wk_call Tryd.call13 (vs := [d4, d5]) rfl rfl ((Same_any w5 (fun _ => False) (fun _ => False) d4 d5 b b hr45 hr5 (by rw [lim_eq]; omega) (by rw [lim_eq]; omega)).mono ?_)
      rintro e w6 ⟨rfl, hb6⟩
      refine ⟨_, rfl, ?_⟩
      refine wk_pick rfl rfl rfl rfl ?_
      refine wk_assign rfl rfl ?_
      refine wk_nil ?_
      exact wk_ret r0 rfl rfl ⟨by rw [beq_self_eq_true]; rfl, hb05.trans (hb6.mono hb05.size)⟩
  · have c2 : cmp .gtr (l.length : Int) 1000 = some true := by simp [cmp]; omega
    by_cases hl2 : l.length ≤ 2147483647
    · have c1 : cmp .gtr (l.length : Int) 2147483647 = some false := by simp [cmp]; omega
      refine wk_seq ?_
      refine wk_reg (id := 0) ?_
      refine wk_assign rfl rfl ?_
      refine wk_nil ?_
      refine wk_seq ?_
      refine wk_seq ?_
      refine wk_reg (id := 1) ?_
      refine wk_move rfl rfl ?_
      refine wk_slen rfl Tryd.underlying22 rfl ?_
      refine wk_cmp rfl rfl (by with_reducible assumption) rfl ?_
      refine wk_nil ?_
      refine wk_condF rfl ?_
      refine wk_skip ?_
      refine wk_seq ?_
      refine wk_seq ?_
      refine wk_reg (id := 3) ?_
      refine wk_move rfl rfl ?_
      refine wk_slen rfl Tryd.underlying22 rfl ?_
      refine wk_cmp rfl rfl (by with_reducible assumption) rfl ?_
      refine wk_nil ?_
      refine wk_condT rfl ?_
      refine wk_seq ?_
      refine wk_reg (id := 4) ?_
      refine wk_assign rfl rfl ?_
      refine wk_nil ?_
      exact wk_ret r0 rfl rfl ⟨rfl, Below.refl _ _⟩
    · have c1 : cmp .gtr (l.length : Int) 2147483647 = some true := by simp [cmp]; omega
      refine wk_seq ?_
      refine wk_reg (id := 0) ?_
      refine wk_assign rfl rfl ?_
      refine wk_nil ?_
      refine wk_seq ?_
      refine wk_seq ?_
      refine wk_reg (id := 1) ?_
      refine wk_move rfl rfl ?_
      refine wk_slen rfl Tryd.underlying22 rfl ?_
      refine wk_cmp rfl rfl (by with_reducible assumption) rfl ?_
      refine wk_nil ?_
      refine wk_condT rfl ?_
      refine wk_seq ?_
      refine wk_reg (id := 2) ?_
      refine wk_assign rfl rfl ?_
      refine wk_nil ?_
      exact wk_ret r0 rfl rfl ⟨rfl, Below.refl _ _⟩
open Go.ChangeShapes Go.WideShapes Go.ChangeAt in
theorem reads_FnAnyLeaderChangeMessage (os : Os) {H : Type} (enc : TypeId × Value → H) : ∃ places, DataW.whole enc Tryd.prog ((laidWorld os).forCall (fun _ _ => 0) ⟨#[], #[.slice none 0 0], []⟩).memory Tryd.f7.params.toList Rows.fnAnyLeaderChangeMessageSpec.vars false #[.slice none 0 0].toList 12 = some ([.nil], [], places) :=
  ⟨[], by kernel_rfl⟩
open Go.ChangeShapes Go.WideShapes Go.ChangeAt in
set_option maxRecDepth 100000 in
set_option linter.unusedVariables false in
theorem lifted_FnAnyLeaderChangeMessage (os : Os) (started : os.Started) (H : Type) (enc : TypeId × Value → H) (F : Stop.Interp) :
    ReturnsInHanded {} Tryd.checked os 7 .any ((OpenSpec.ofChange Rows.fnAnyLeaderChangeMessageSpec).preRow enc Tryd.prog Tryd.f7 Rows.fnAnyLeaderChangeMessageRow.domain false Rows.fnAnyLeaderChangeMessageRow.laid) (((OpenSpec.ofChange Rows.fnAnyLeaderChangeMessageSpec).at F).post enc Tryd.prog Tryd.f7 false true false false) := by
  obtain ⟨places, hx⟩ := reads_FnAnyLeaderChangeMessage os enc
  refine returnsInHanded_of_row (C := Tryd.checked) (s := OpenSpec.ofChange Rows.fnAnyLeaderChangeMessageSpec) own started (by kernel_rfl) Tryd.func7
    (witness_row_at (enc := enc) (C := Tryd.checked) false (laidWorld os) #[.slice none 0 0] rfl (by kernel_rfl) (by kernel_rfl) (by kernel_rfl)
      (OpenSpec.preRow_of_cond 12 hx (by kernel_rfl) (fun k hk => by cases hk) (by kernel_rfl) (laid_met os _))) ?_
  intro W base args ds gs before hval0 hW _ hcond hsz hL hsh _
  have hval : ∀ (j : Nat) t v, Tryd.f7.params[j]? = some t → args[j]? = some v → Value.okWide Tryd.prog W .any base t v := hval0
  have hW' := hW
  obtain ⟨p, q, hA0, hV, rfl, hfz, hnd⟩ := hW
  have hA : DataW.TrodAll enc Tryd.prog W 0 (fun _ => true) true Tryd.f7.params.toList args.toList ds p := hA0
  rw [Tryd.params7] at hA hval
  obtain ⟨E, hE, hg⟩ := sentinel hL
  obtain ⟨v1, vs1, d1, ds1, p1, q1, hargs, rfl, rfl, h1, r1⟩ := trodAll_cons hA
  obtain ⟨rfl, rfl, rfl⟩ := trodAll_nil r1
  obtain rfl : args = #[v1] := by cases args; simp_all
  obtain ⟨rfl, rfl⟩ := trodVars_none hV
  obtain ⟨l, hrep⟩ := bytes_open Tryd.underlying22 Tryd.underlying5 cellsU8 (hval 0 22 v1 rfl rfl) h1
  clear hA0 hval0
  simp only [List.append_nil] at hW'
  refine (walk_AnyLeaderChangeMessage hE W (fun _ => False) v1 l hrep hg).mono fun e W' ⟨he, hb⟩ => ?_
  subst he
  have hlt : ∀ x ∈ p1, x.block < W.heap.size := fun x hx => hW'.lt x (by simp [hx])
  exact ⟨_, rfl, post_of_below (pa := p1 ++ []) (pv := []) hW' (fun _ _ _ => (trodAll_cons_mk (shut_bool Tryd.underlying4 _) trodAll_mk0))
    (fun sp hsp => (trodAll_cons_mk (WideElems.Trod_stays P_laid (by kernel_rfl) (of_decide_eq_true (by kernel_rfl)) h1 (fun x hx => hb.same (hlt x hx)) (fun x hx => hsp x (by simp [hx]))) trodAll_mk0)) (fun _ _ => rfl) (by simp)
    hb (ok_one (by kernel_rfl) rfl (okWide_bool_mk Tryd.underlying4 _))⟩
theorem named_FnAnyLeaderChangeMessage : Tryd.prog.funcNamed Rows.fnAnyLeaderChangeMessageRow.func = some 7 := by kernel_rfl
theorem inPlace_FnAnyLeaderChangeMessage : (Rows.fnAnyLeaderChangeMessageRow.inPlace == Tryd.prog.inPlace 7) = true := by kernel_rfl
theorem unfollowed_FnAnyLeaderChangeMessage : (Rows.fnAnyLeaderChangeMessageRow.unfollowed == Tryd.prog.unfollowed 7) = true := by kernel_rfl
theorem recurses_FnAnyLeaderChangeMessage : (Rows.fnAnyLeaderChangeMessageRow.recurses == Tryd.prog.recurses 7) = true := by kernel_rfl
theorem vars_FnAnyLeaderChangeMessage : (Rows.fnAnyLeaderChangeMessageRow.named == Tryd.prog.varsNamed 7) = true := by kernel_rfl
theorem joined_FnAnyLeaderChangeMessage : joinedFacts Tryd.prog 7 Tryd.f7 (OpenSpec.ofChange Rows.fnAnyLeaderChangeMessageSpec).bare Rows.fnAnyLeaderChangeMessageRow = true := by
  unfold joinedFacts
  iterate 4 refine and2 ?_ (by as_aux_lemma => kernel_rfl)
  refine and2 (and2 (and2 (and2 ?_ P_heard) P_enter) P_lifts) P_make
  refine and2 (and2 ?_ P_keys) (by as_aux_lemma => kernel_rfl)
  iterate 9 refine and2 ?_ (by as_aux_lemma => kernel_rfl)
  refine and2 (and2 (and2 (and2 ?_ inPlace_FnAnyLeaderChangeMessage) unfollowed_FnAnyLeaderChangeMessage) recurses_FnAnyLeaderChangeMessage) vars_FnAnyLeaderChangeMessage
  iterate 6 refine and2 ?_ (by as_aux_lemma => kernel_rfl)
  refine and2 (and2 ?_ P_laid) P_maps
  kernel_rfl
theorem said_FnAnyLeaderChangeMessage : Rows.FnAnyLeaderChangeMessageSaid :=
  OpenClaim.holds_of_cond 7 Tryd.f7 rfl rfl rfl rfl rfl rfl rfl ⟨rfl, rfl, rfl, rfl, rfl⟩ rfl rfl rfl rfl rfl named_FnAnyLeaderChangeMessage Tryd.func7 joined_FnAnyLeaderChangeMessage
    (of_decide_eq_true (by as_aux_lemma => kernel_rfl)) (by unfold Func.isWrapper; first | (rw [if_pos (by decide +kernel)]; kernel_rfl) | (rw [if_neg (by decide +kernel)]; exact ⟨rfl, rfl⟩))
    (fun os started H enc _ F => by rw [OpenClaim.pre_eq_preRow]; exact lifted_FnAnyLeaderChangeMessage os started H enc F)
theorem looks_FnAnyLeaderChangeMessage : false = Tryd.pinned.checked.prog.looks [] := by kernel_rfl
theorem plain_FnAnyLeaderChangeMessage (f : FuncId) (fn : Func) (hf : Tryd.pinned.checked.prog.funcNamed Rows.fnAnyLeaderChangeMessageRow.func = some f) (hfn : Tryd.pinned.checked.prog.funcs[f]? = some fn) :
    false = Tryd.pinned.checked.prog.looks [] ∧ ∀ (j : Nat) t, fn.params[j]? = some t → Tryd.pinned.checked.prog.wantsStandIn t = false := by
  obtain rfl : f = 7 := Option.some.inj (hf.symm.trans named_FnAnyLeaderChangeMessage)
  obtain rfl : fn = Tryd.f7 := (Option.some.inj (Tryd.func7.symm.trans hfn)).symm
  refine ⟨looks_FnAnyLeaderChangeMessage, fun j t ht => ?_⟩
  rw [Tryd.params7] at ht
  have h : t = 22 := by simpa using Array.mem_of_getElem? ht
  rcases h with rfl
  · exact (show Tryd.prog.wantsStandIn 22 = false by kernel_rfl)
/-- The card. -/
theorem holds_FnAnyLeaderChangeMessage : Rows.FnAnyLeaderChangeMessageCardSaid :=
  Claim7.holds_tied_plain_at .later [] _ _ _ _ said_FnAnyLeaderChangeMessage (fun _ h => by cases h) (by kernel_rfl) (fun _ h => by cases h) fnAnyLeaderChangeMessage_row_tie rfl ⟨rfl, rfl⟩ (by kernel_rfl) rfl plain_FnAnyLeaderChangeMessage (by kernel_rfl)
#print axioms holds_FnAnyLeaderChangeMessage
end Go.Proofs.YtobeonhmomiaaaaDoor
