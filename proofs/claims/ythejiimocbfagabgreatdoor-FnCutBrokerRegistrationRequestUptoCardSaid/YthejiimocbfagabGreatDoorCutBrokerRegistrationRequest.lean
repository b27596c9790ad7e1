/-
  What the reference writes of a tree as a BrokerRegistrationRequest is an error where it ends ahead of its end; for every input that the row lets in, of bulk at most 1048576 (the variable ErrNotEnoughData as the program lays it).
-/
import Derived.Test.YthejiimocbfagabGreatDoorMsgBrokerRegistrationRequest
import Derived.Test.YthejiimocbfagabGreatDoorAgFacts
import Derived.Test.YthejiimocbfagabGreatDoorAgTree
import Derived.Test.YthejiimocbfagabGreatDoorCards
import Derived.Test.YthejiimocbfagabGreatDoorTie
set_option linter.unusedVariables false
set_option linter.unusedSimpArgs false
namespace Go.Proofs.YthejiimocbfagabGreatDoor
open Go Go.RowKit Go.Proofs.Eng
set_option maxRecDepth 20000
set_option maxHeartbeats 4000000

def F_sBrokerRegistrationRequestListener : List Fld := [.mk 8 0 (-1) (-1) (-1) 0 0 [], .mk 8 0 (-1) (-1) (-1) 0 0 [], .mk 5 0 (-1) (-1) (-1) 0 0 [], .mk 2 0 (-1) (-1) (-1) 0 0 []]
theorem c_sBrokerRegistrationRequestListener (w : World) : Calls Tryz.prog 14 #[] w fun e w' => ∃ v, e = .returned v ∧ FRep w' (fun b => b < w.heap.size) v F_sBrokerRegistrationRequestListener ∧ Below w.heap.size w w' := by
  refine calls_wk (args := []) Tryz.func14 rfl rfl ?_
  refine wk_seq ?_
  refine wk_reg (id := 0) ?_
  refine wk_assign rfl rfl ?_
  refine wk_nil ?_
  refine wk_seq ?_
  refine wk_reg (id := 1) ?_
  have hB0 := Below.refl w.heap.size w
  refine wk_build (vs := [(0, .int .i64 8), (2, .int .i64 (-1)), (3, .int .i64 (-1)), (4, .int .i64 (-1))]) (cells := #[.int .i64 8, .int .i64 0, .int .i64 (-1), .int .i64 (-1), .int .i64 (-1), .int .i64 0, .int .i64 0, .slice none 0 0]) rfl (by kernel_rfl) rfl ?_
  refine wk_build (vs := [(0, .int .i64 8), (2, .int .i64 (-1)), (3, .int .i64 (-1)), (4, .int .i64 (-1))]) (cells := #[.int .i64 8, .int .i64 0, .int .i64 (-1), .int .i64 (-1), .int .i64 (-1), .int .i64 0, .int .i64 0, .slice none 0 0]) rfl (by kernel_rfl) rfl ?_
  refine wk_build (vs := [(0, .int .i64 5), (2, .int .i64 (-1)), (3, .int .i64 (-1)), (4, .int .i64 (-1))]) (cells := #[.int .i64 5, .int .i64 0, .int .i64 (-1), .int .i64 (-1), .int .i64 (-1), .int .i64 0, .int .i64 0, .slice none 0 0]) rfl (by kernel_rfl) rfl ?_
  refine wk_build (vs := [(0, .int .i64 2), (2, .int .i64 (-1)), (3, .int .i64 (-1)), (4, .int .i64 (-1))]) (cells := #[.int .i64 2, .int .i64 0, .int .i64 (-1), .int .i64 (-1), .int .i64 (-1), .int .i64 0, .int .i64 0, .slice none 0 0]) rfl (by kernel_rfl) rfl ?_
  refine wk_buildS (e := 46) (vs := [(0, .agg #[.int .i64 8, .int .i64 0, .int .i64 (-1), .int .i64 (-1), .int .i64 (-1), .int .i64 0, .int .i64 0, .slice none 0 0]), (1, .agg #[.int .i64 8, .int .i64 0, .int .i64 (-1), .int .i64 (-1), .int .i64 (-1), .int .i64 0, .int .i64 0, .slice none 0 0]), (2, .agg #[.int .i64 5, .int .i64 0, .int .i64 (-1), .int .i64 (-1), .int .i64 (-1), .int .i64 0, .int .i64 0, .slice none 0 0]), (3, .agg #[.int .i64 2, .int .i64 0, .int .i64 (-1), .int .i64 (-1), .int .i64 (-1), .int .i64 0, .int .i64 0, .slice none 0 0])]) (cells := (fcells F_sBrokerRegistrationRequestListener [.slice none 0 0, .slice none 0 0, .slice none 0 0, .slice none 0 0]).toArray) (ie := Tryz.t46) (zv := .agg #[.int .i64 0, .int .i64 0, .int .i64 0, .int .i64 0, .int .i64 0, .int .i64 0, .int .i64 0, .slice none 0 0]) rfl Tryz.underlying31 (by kernel_rfl) rfl rfl rfl (by kernel_rfl) rfl ?_
  have hr := frep_build (fs := F_sBrokerRegistrationRequestListener) (X := fun b => b < w.heap.size) (vs := [.slice none 0 0, .slice none 0 0, .slice none 0 0, .slice none 0 0]) (Nat.not_lt.2 hB0.size) (heap_alloc_last w (.cells ((fcells F_sBrokerRegistrationRequestListener [.slice none 0 0, .slice none 0 0, .slice none 0 0, .slice none 0 0]).toArray) 46)) rfl rfl (And.intro .nil (And.intro .nil (And.intro .nil (And.intro .nil trivial))))
  refine wk_assign rfl rfl ?_
  refine wk_nil ?_
  exact wk_ret r0 rfl rfl ⟨_, rfl, hr, hB0.trans ((below1 _ _).mono hB0.size)⟩
def F_sBrokerRegistrationRequestFeature : List Fld := [.mk 8 0 (-1) (-1) (-1) 0 0 [], .mk 2 0 (-1) (-1) (-1) 0 0 [], .mk 2 0 (-1) (-1) (-1) 0 0 []]
theorem c_sBrokerRegistrationRequestFeature (w : World) : Calls Tryz.prog 15 #[] w fun e w' => ∃ v, e = .returned v ∧ FRep w' (fun b => b < w.heap.size) v F_sBrokerRegistrationRequestFeature ∧ Below w.heap.size w w' := by
  refine calls_wk (args := []) Tryz.func15 rfl rfl ?_
  refine wk_seq ?_
  refine wk_reg (id := 0) ?_
  refine wk_assign rfl rfl ?_
  refine wk_nil ?_
  refine wk_seq ?_
  refine wk_reg (id := 1) ?_
  have hB0 := Below.refl w.heap.size w
  refine wk_build (vs := [(0, .int .i64 8), (2, .int .i64 (-1)), (3, .int .i64 (-1)), (4, .int .i64 (-1))]) (cells := #[.int .i64 8, .int .i64 0, .int .i64 (-1), .int .i64 (-1), .int .i64 (-1), .int .i64 0, .int .i64 0, .slice none 0 0]) rfl (by kernel_rfl) rfl ?_
  refine wk_build (vs := [(0, .int .i64 2), (2, .int .i64 (-1)), (3, .int .i64 (-1)), (4, .int .i64 (-1))]) (cells := #[.int .i64 2, .int .i64 0, .int .i64 (-1), .int .i64 (-1), .int .i64 (-1), .int .i64 0, .int .i64 0, .slice none 0 0]) rfl (by kernel_rfl) rfl ?_
  refine wk_build (vs := [(0, .int .i64 2), (2, .int .i64 (-1)), (3, .int .i64 (-1)), (4, .int .i64 (-1))]) (cells := #[.int .i64 2, .int .i64 0, .int .i64 (-1), .int .i64 (-1), .int .i64 (-1), .int .i64 0, .int .i64 0, .slice none 0 0]) rfl (by kernel_rfl) rfl ?_
  refine wk_buildS (e := 46) (vs := [(0, .agg #[.int .i64 8, .int .i64 0, .int .i64 (-1), .int .i64 (-1), .int .i64 (-1), .int .i64 0, .int .i64 0, .slice none 0 0]), (1, .agg #[.int .i64 2, .int .i64 0, .int .i64 (-1), .int .i64 (-1), .int .i64 (-1), .int .i64 0, .int .i64 0, .slice none 0 0]), (2, .agg #[.int .i64 2, .int .i64 0, .int .i64 (-1), .int .i64 (-1), .int .i64 (-1), .int .i64 0, .int .i64 0, .slice none 0 0])]) (cells := (fcells F_sBrokerRegistrationRequestFeature [.slice none 0 0, .slice none 0 0, .slice none 0 0]).toArray) (ie := Tryz.t46) (zv := .agg #[.int .i64 0, .int .i64 0, .int .i64 0, .int .i64 0, .int .i64 0, .int .i64 0, .int .i64 0, .slice none 0 0]) rfl Tryz.underlying31 (by kernel_rfl) rfl rfl rfl (by kernel_rfl) rfl ?_
  have hr := frep_build (fs := F_sBrokerRegistrationRequestFeature) (X := fun b => b < w.heap.size) (vs := [.slice none 0 0, .slice none 0 0, .slice none 0 0]) (Nat.not_lt.2 hB0.size) (heap_alloc_last w (.cells ((fcells F_sBrokerRegistrationRequestFeature [.slice none 0 0, .slice none 0 0, .slice none 0 0]).toArray) 46)) rfl rfl (And.intro .nil (And.intro .nil (And.intro .nil trivial)))
  refine wk_assign rfl rfl ?_
  refine wk_nil ?_
  exact wk_ret r0 rfl rfl ⟨_, rfl, hr, hB0.trans ((below1 _ _).mono hB0.size)⟩
def F_BrokerRegistrationRequest : List Fld := [.mk 3 0 (-1) (-1) (-1) 0 0 [], .mk 8 0 (-1) (-1) (-1) 0 0 [], .mk 7 0 (-1) (-1) (-1) 0 0 [], .mk 11 0 (-1) (-1) (-1) 0 10 F_sBrokerRegistrationRequestListener, .mk 11 0 (-1) (-1) (-1) 0 10 F_sBrokerRegistrationRequestFeature, .mk 8 0 (-1) 0 (-1) 0 0 [], .mk 0 1 (-1) (-1) (-1) 0 0 [], .mk 11 2 (-1) (-1) (-1) 0 7 [], .mk 4 3 (-1) (-1) (-1) (-1) 0 []]
theorem c_BrokerRegistrationRequest (w : World) : Calls Tryz.prog 7 #[] w fun e w' => ∃ v, e = .returned (.agg #[v, .int .i64 0]) ∧ FRep w' (fun b => b < w.heap.size) v F_BrokerRegistrationRequest ∧ Below w.heap.size w w' := by
  refine calls_wk (args := []) Tryz.func7 rfl rfl ?_
  refine wk_seq ?_
  refine wk_reg (id := 0) ?_
  refine wk_alloc (t := 33) (i := Tryz.t33) (by kernel_rfl) rfl rfl ?_
  refine wk_nil ?_
  refine wk_seq ?_
  refine wk_reg (id := 1) ?_
  have hB0 : Below w.heap.size w (w.alloc (.cells (Value.agg #[.slice none 0 0, .int .i64 0]).cells 33)) := below1 _ _
  have hM0 : (w.alloc (.cells (Value.agg #[.slice none 0 0, .int .i64 0]).cells 33)).heap[w.heap.size]? = some (.cells #[.slice none 0 0, .int .i64 0] 33 (0, 0)) := heap_alloc_last _ _
  refine wk_build (vs := [(0, .int .i64 3), (2, .int .i64 (-1)), (3, .int .i64 (-1)), (4, .int .i64 (-1))]) (cells := #[.int .i64 3, .int .i64 0, .int .i64 (-1), .int .i64 (-1), .int .i64 (-1), .int .i64 0, .int .i64 0, .slice none 0 0]) rfl (by kernel_rfl) rfl ?_
  refine wk_build (vs := [(0, .int .i64 8), (2, .int .i64 (-1)), (3, .int .i64 (-1)), (4, .int .i64 (-1))]) (cells := #[.int .i64 8, .int .i64 0, .int .i64 (-1), .int .i64 (-1), .int .i64 (-1), .int .i64 0, .int .i64 0, .slice none 0 0]) rfl (by kernel_rfl) rfl ?_
  refine wk_build (vs := [(0, .int .i64 7), (2, .int .i64 (-1)), (3, .int .i64 (-1)), (4, .int .i64 (-1))]) (cells := #[.int .i64 7, .int .i64 0, .int .i64 (-1), .int .i64 (-1), .int .i64 (-1), .int .i64 0, .int .i64 0, .slice none 0 0]) rfl (by kernel_rfl) rfl ?_
  refine wk_call Tryz.call14 (vs := []) rfl rfl ((c_sBrokerRegistrationRequestListener _).mono ?_)
  rintro e w1 ⟨v1, rfl, hf1, hb1⟩
  refine ⟨_, rfl, ?_⟩
  obtain ⟨A1, c1, rfl⟩ := hf1.form
  have hB1 := hB0.trans (hb1.mono hB0.size)
  have hM1 := (hb1.block _ (lt_of_some hM0)).trans hM0
  refine wk_build (vs := [(0, .int .i64 11), (2, .int .i64 (-1)), (3, .int .i64 (-1)), (4, .int .i64 (-1)), (6, .int .i64 10), (7, .slice A1 F_sBrokerRegistrationRequestListener.length c1)]) (cells := #[.int .i64 11, .int .i64 0, .int .i64 (-1), .int .i64 (-1), .int .i64 (-1), .int .i64 0, .int .i64 10, .slice A1 F_sBrokerRegistrationRequestListener.length c1]) rfl (by kernel_rfl) rfl ?_
  refine wk_call Tryz.call15 (vs := []) rfl rfl ((c_sBrokerRegistrationRequestFeature _).mono ?_)
  rintro e w2 ⟨v2, rfl, hf2, hb2⟩
  refine ⟨_, rfl, ?_⟩
  obtain ⟨A2, c2, rfl⟩ := hf2.form
  have hB2 := hB1.trans (hb2.mono hB1.size)
  have hM2 := (hb2.block _ (lt_of_some hM1)).trans hM1
  refine wk_build (vs := [(0, .int .i64 11), (2, .int .i64 (-1)), (3, .int .i64 (-1)), (4, .int .i64 (-1)), (6, .int .i64 10), (7, .slice A2 F_sBrokerRegistrationRequestFeature.length c2)]) (cells := #[.int .i64 11, .int .i64 0, .int .i64 (-1), .int .i64 (-1), .int .i64 (-1), .int .i64 0, .int .i64 10, .slice A2 F_sBrokerRegistrationRequestFeature.length c2]) rfl (by kernel_rfl) rfl ?_
  refine wk_build (vs := [(0, .int .i64 8), (2, .int .i64 (-1)), (3, .int .i64 0), (4, .int .i64 (-1))]) (cells := #[.int .i64 8, .int .i64 0, .int .i64 (-1), .int .i64 0, .int .i64 (-1), .int .i64 0, .int .i64 0, .slice none 0 0]) rfl (by kernel_rfl) rfl ?_
  refine wk_build (vs := [(0, .int .i64 0), (1, .int .i64 1), (2, .int .i64 (-1)), (3, .int .i64 (-1)), (4, .int .i64 (-1))]) (cells := #[.int .i64 0, .int .i64 1, .int .i64 (-1), .int .i64 (-1), .int .i64 (-1), .int .i64 0, .int .i64 0, .slice none 0 0]) rfl (by kernel_rfl) rfl ?_
  refine wk_build (vs := [(0, .int .i64 11), (1, .int .i64 2), (2, .int .i64 (-1)), (3, .int .i64 (-1)), (4, .int .i64 (-1)), (6, .int .i64 7)]) (cells := #[.int .i64 11, .int .i64 2, .int .i64 (-1), .int .i64 (-1), .int .i64 (-1), .int .i64 0, .int .i64 7, .slice none 0 0]) rfl (by kernel_rfl) rfl ?_
  refine wk_build (vs := [(0, .int .i64 4), (1, .int .i64 3), (2, .int .i64 (-1)), (3, .int .i64 (-1)), (4, .int .i64 (-1)), (5, .int .i64 (-1))]) (cells := #[.int .i64 4, .int .i64 3, .int .i64 (-1), .int .i64 (-1), .int .i64 (-1), .int .i64 (-1), .int .i64 0, .slice none 0 0]) rfl (by kernel_rfl) rfl ?_
  refine wk_buildS (e := 46) (vs := [(0, .agg #[.int .i64 3, .int .i64 0, .int .i64 (-1), .int .i64 (-1), .int .i64 (-1), .int .i64 0, .int .i64 0, .slice none 0 0]), (1, .agg #[.int .i64 8, .int .i64 0, .int .i64 (-1), .int .i64 (-1), .int .i64 (-1), .int .i64 0, .int .i64 0, .slice none 0 0]), (2, .agg #[.int .i64 7, .int .i64 0, .int .i64 (-1), .int .i64 (-1), .int .i64 (-1), .int .i64 0, .int .i64 0, .slice none 0 0]), (3, .agg #[.int .i64 11, .int .i64 0, .int .i64 (-1), .int .i64 (-1), .int .i64 (-1), .int .i64 0, .int .i64 10, .slice A1 F_sBrokerRegistrationRequestListener.length c1]), (4, .agg #[.int .i64 11, .int .i64 0, .int .i64 (-1), .int .i64 (-1), .int .i64 (-1), .int .i64 0, .int .i64 10, .slice A2 F_sBrokerRegistrationRequestFeature.length c2]), (5, .agg #[.int .i64 8, .int .i64 0, .int .i64 (-1), .int .i64 0, .int .i64 (-1), .int .i64 0, .int .i64 0, .slice none 0 0]), (6, .agg #[.int .i64 0, .int .i64 1, .int .i64 (-1), .int .i64 (-1), .int .i64 (-1), .int .i64 0, .int .i64 0, .slice none 0 0]), (7, .agg #[.int .i64 11, .int .i64 2, .int .i64 (-1), .int .i64 (-1), .int .i64 (-1), .int .i64 0, .int .i64 7, .slice none 0 0]), (8, .agg #[.int .i64 4, .int .i64 3, .int .i64 (-1), .int .i64 (-1), .int .i64 (-1), .int .i64 (-1), .int .i64 0, .slice none 0 0])]) (cells := (fcells F_BrokerRegistrationRequest [.slice none 0 0, .slice none 0 0, .slice none 0 0, .slice A1 F_sBrokerRegistrationRequestListener.length c1, .slice A2 F_sBrokerRegistrationRequestFeature.length c2, .slice none 0 0, .slice none 0 0, .slice none 0 0, .slice none 0 0]).toArray) (ie := Tryz.t46) (zv := .agg #[.int .i64 0, .int .i64 0, .int .i64 0, .int .i64 0, .int .i64 0, .int .i64 0, .int .i64 0, .slice none 0 0]) rfl Tryz.underlying31 (by kernel_rfl) rfl rfl rfl (by kernel_rfl) rfl ?_
  refine wk_build (vs := [(1, .int .i64 0), (0, .slice (some ⟨w2.heap.size, 0, none⟩) 9 9)]) (cells := #[.slice (some ⟨w2.heap.size, 0, none⟩) 9 9, .int .i64 0]) rfl (by kernel_rfl) rfl ?_
  have hMS := ((below1 w2 (.cells ((fcells F_BrokerRegistrationRequest [.slice none 0 0, .slice none 0 0, .slice none 0 0, .slice A1 F_sBrokerRegistrationRequestListener.length c1, .slice A2 F_sBrokerRegistrationRequestFeature.length c2, .slice none 0 0, .slice none 0 0, .slice none 0 0, .slice none 0 0]).toArray) 46)).block _ (lt_of_some hM2)).trans hM2
  have hr := frep_build (fs := F_BrokerRegistrationRequest) (X := fun b => b < w.heap.size + 1) (vs := [.slice none 0 0, .slice none 0 0, .slice none 0 0, .slice A1 F_sBrokerRegistrationRequestListener.length c1, .slice A2 F_sBrokerRegistrationRequestFeature.length c2, .slice none 0 0, .slice none 0 0, .slice none 0 0, .slice none 0 0]) (Nat.not_lt.2 (lt_of_some hM2)) (heap_alloc_last w2 (.cells ((fcells F_BrokerRegistrationRequest [.slice none 0 0, .slice none 0 0, .slice none 0 0, .slice A1 F_sBrokerRegistrationRequestListener.length c1, .slice A2 F_sBrokerRegistrationRequestFeature.length c2, .slice none 0 0, .slice none 0 0, .slice none 0 0, .slice none 0 0]).toArray) 46)) rfl rfl (And.intro .nil (And.intro .nil (And.intro .nil (And.intro (((hf1.mono (fun b _ h => Nat.lt_of_lt_of_le h (lt_of_some hM0))).keep (keeps_below hb2 (Nat.le_refl _))).keep (keeps_below (below1 _ _) (Nat.le_refl _))) (And.intro ((hf2.mono (fun b _ h => Nat.lt_of_lt_of_le h (lt_of_some hM1))).keep (keeps_below (below1 _ _) (Nat.le_refl _))) (And.intro .nil (And.intro .nil (And.intro .nil (And.intro .nil trivial)))))))))
  refine wk_storeRow (i := Tryz.t33) (cs := #[.slice (some ⟨w2.heap.size, 0, none⟩) 9 9, .int .i64 0]) rfl rfl hMS (by kernel_rfl) rfl rfl (one2 rfl rfl) ?_
  refine wk_nil ?_
  refine wk_retc r0 rfl rfl (loadVar_cells (vs := [.slice (some ⟨w2.heap.size, 0, none⟩) 9 9, .int .i64 0]) Tryz.underlying33 rfl (show Tryz.prog.info? 33 = some Tryz.t33 by kernel_rfl) rfl (cells_blk (setRow_heap _ _ _ _ _ _ hMS))) ⟨_, rfl, ?_, ?_⟩
  · exact (hr.keep (keeps_setRow (X := fun b => b < w.heap.size + 1) (b := w.heap.size) _ (Nat.lt_succ_self w.heap.size) _)).mono (fun b _ h => Nat.lt_succ_of_lt h)
  · exact below_setRow (hB2.trans ((below1 _ _).mono hB2.size)) (Nat.le_refl _) _
theorem okt_BrokerRegistrationRequest (v : Nat) (h : v ≤ 4) : ∃ S cs, VOK_BrokerRegistrationRequest v S ∧ cvs0 ks_BrokerRegistrationRequest (dv_BrokerRegistrationRequest v) = some cs ∧ cs[0]? = some (.int .i16 v) ∧ isNilS (mF 3 (v : Int) (decide ((0 : Int) ≤ 0) && decide ((0 : Int) ≤ (v : Int))) F_BrokerRegistrationRequest S) = true := by
  have key : ∀ v : Nat, ((match ver_BrokerRegistrationRequest v with | some S => isNilS (mF 3 (v : Int) (decide ((0 : Int) ≤ 0) && decide ((0 : Int) ≤ (v : Int))) F_BrokerRegistrationRequest S) | none => false) && (match cvs0 ks_BrokerRegistrationRequest (dv_BrokerRegistrationRequest v) with | some (.int .i16 n :: _) => decide (n = (v : Int)) | _ => false)) = true → ∃ S cs, VOK_BrokerRegistrationRequest v S ∧ cvs0 ks_BrokerRegistrationRequest (dv_BrokerRegistrationRequest v) = some cs ∧ cs[0]? = some (.int .i16 v) ∧ isNilS (mF 3 (v : Int) (decide ((0 : Int) ≤ 0) && decide ((0 : Int) ≤ (v : Int))) F_BrokerRegistrationRequest S) = true := by
    intro v h
    simp only [Bool.and_eq_true] at h
    have h1 := h.1
    split at h1
    · rename_i S hS
      have h2 := h.2
      split at h2
      · rename_i n r hc
        exact ⟨S, _, verS_ok hS, hc, by rw [← of_decide_eq_true h2]; rfl, h1⟩
      · cases h2
    · cases h1
  have h : v = 0 ∨ v = 1 ∨ v = 2 ∨ v = 3 ∨ v = 4 := by omega
  rcases h with rfl | rfl | rfl | rfl | rfl <;> exact key _ (by kernel_rfl)
/-! ## the law -/
theorem walk_CutBrokerRegistrationRequest {E : Value} (hE : ∃ u q, E = .iface u q) (a0 : Int) (w0 : (Lit.int .u8 a0).wf = true) (a2 : Int) (w2 : (Lit.int .u16 a2).wf = true) (w : World) (vs : List Value) (t : Tree) (n : Nat) (hT : TRep w (fun _ => False) vs t) (hok : TOk G32 t) (hB : TB t n) (hn : n ≤ 1048576) (hg : w.cell? ⟨1, 0, none⟩ = some E) : Calls Tryz.prog 3 #[.int .u8 a0, .agg vs.toArray, .int .u16 a2] w fun e w' => e = .returned (.bool true) ∧ Below w.heap.size w w' := by
  obtain ⟨h0, h1⟩ := bounds_u8 w0
  obtain ⟨h2, h3⟩ := bounds_u16 w2
  obtain ⟨ver, hvr, hm⟩ := ver_of a0 4 h0
  obtain ⟨S, cs, V, hcs, hc0, hmf⟩ := okt_BrokerRegistrationRequest ver hm
  have hS : SOk S 0 cs.length = true := by rw [(cvs0_ok hcs).2.1.1]; exact SOk.lo V.ok (Nat.zero_le _)
  obtain ⟨out, hRW, _, _⟩ := again_law hS hmf hok
  have hlen := part_le 3 (ver : Int) (decide ((0 : Int) ≤ 0) && decide ((0 : Int) ≤ (ver : Int))) F_BrokerRegistrationRequest t n (by kernel_rfl) hB
  have hlb := mul_le_lim hlen hn (Nat.le_of_ble_eq_true (by kernel_rfl))
  have hag := again_ok hS hRW
  have hcut := fun m h => cut_ok hS hRW m h hlb
  obtain ⟨b, hbd⟩ : ∃ b, b = sWrite 3 F_BrokerRegistrationRequest 0 (ver : Int) t := ⟨_, rfl⟩
  have hbd2 : sPart 3 (ver : Int) (decide ((0 : Int) ≤ 0) && decide ((0 : Int) ≤ (ver : Int))) F_BrokerRegistrationRequest t = b := hbd.symm
  rw [hbd2] at hlb hag hcut
  clear hRW hlen hbd2
  have hgl : 1 < w.heap.size := lt_of_cell hg
  have cm : cmp .lss 4 0 = some false := rfl
  have hT0 := hT
  obtain ⟨N, Sb, nl, Lt, U, v1, v2, v3, cells, hN, hSr, hL, hU, hr⟩ := hT
  have hT1 := heap_alloc_new w (.cells #[.int .i64 N, v1, .bool nl, v2, v3] 26)
  have hb1 := below1 w (.cells #[.int .i64 N, v1, .bool nl, v2, v3] 26)
  refine calls_wk (args := [.int .u8 a0, .agg #[.int .i64 N, v1, .bool nl, v2, v3], .int .u16 a2]) Tryz.func3 rfl rfl ?_
  refine wk_seq ?_
  refine wk_reg (id := 0) ?_
  refine wk_box rfl rfl ?_
  refine wk_assign rfl rfl ?_
  refine wk_nil ?_
  refine wk_seq ?_
  refine wk_seq ?_
  refine wk_reg (id := 1) ?_
  refine wk_loadA (i := Tryz.t26) rfl Tryz.underlying26 rfl (by kernel_rfl) rfl (by exact cells_new) rfl ?_
  first
    | refine wk_loadA (i := Tryz.t26) rfl Tryz.underlying26 rfl (by kernel_rfl) (vs := [.int .i64 N, v1, .bool nl, v2, v3]) rfl (cells_blk hT1) rfl ?_
    | skip
  skip
  refine wk_call Tryz.call4 (vs := [.agg #[.int .i64 N, v1, .bool nl, v2, v3]]) rfl rfl ((fits2 _ (fun _ => False) [.int .i64 N, v1, .bool nl, v2, v3] (.mk N Sb nl Lt U) (hT0.keep (keeps_below hb1 (Nat.le_refl _)))).mono ?_)
  rintro e w2 ⟨bf, rfl, hbf⟩
  refine ⟨_, rfl, ?_⟩
  have hb2 := hb1.trans (hbf.mono hb1.size)
  refine wk_not rfl rfl ?_
  refine wk_nil ?_
  cases bf with
  | false =>
    skip
    refine wk_condT rfl ?_
    refine wk_seq ?_
    refine wk_reg (id := 2) ?_
    refine wk_assign rfl rfl ?_
    refine wk_nil ?_
    exact wk_ret r0 rfl rfl ⟨rfl, hb2⟩
  | true =>
    skip
    refine wk_condF rfl ?_
    refine wk_skip ?_
    refine wk_seq ?_
    refine wk_reg (id := 3) ?_
    refine wk_call Tryz.call5 (vs := []) rfl rfl ((c_Max_BrokerRegistrationRequest w2).mono ?_)
    rintro e w3 ⟨rfl, hbm⟩
    refine ⟨_, rfl, ?_⟩
    have hb3 := hb2.trans (hbm.mono hb2.size)
    have hT3 := ((hbf.trans (hbm.mono hbf.size)).block _ (lt_of_some hT1)).trans hT1
    refine wk_assign rfl rfl ?_
    refine wk_nil ?_
    refine wk_seq ?_
    refine wk_seq ?_
    refine wk_reg (id := 4) ?_
    refine wk_move rfl rfl ?_
    refine wk_cmp rfl rfl (by with_reducible assumption) rfl ?_
    refine wk_nil ?_
    refine wk_condF rfl ?_
    refine wk_skip ?_
    refine wk_seq ?_
    refine wk_draw (fun w' => w'.heap[w.heap.size]? = some (.cells #[.int .i64 N, v1, .bool nl, v2, v3] 26 (0, 0))) [(1, true), (2, true), (4, true), (0, false), (3, false), (5, false), (6, true)] mixed pq0 (by kernel_rfl) (by kernel_rfl) (by kernel_rfl) (fun w5 h5 _ => by rw [h5]; exact hT3) ?_
    intro w4 h4 hb4
    have hT4 : w4.heap[w.heap.size]? = some (.cells #[.int .i64 N, v1, .bool nl, v2, v3] 26 (0, 0)) := by rw [h4]; exact hT3
    have hb04 := hb3.trans (hb4.mono hb3.size)
    refine wd_move rfl rfl rfl ?_
    refine wd_move rfl rfl rfl ?_
    refine wd_loadA (ti := Tryz.t26) rfl rfl Tryz.underlying26 rfl (by kernel_rfl) (vs := [.int .i64 N, v1, .bool nl, v2, v3]) rfl (fun w' hS => cells_blk hS) rfl ?_
    refine wd_call rfl Tryz.call7 (vs := []) rfl rfl ((c_BrokerRegistrationRequest w4).mono ?_)
    rintro e w5 ⟨fv, rfl, hF, hb5⟩
    have hT5 := (hb5.block _ (lt_of_some hT4)).trans hT4
    have hb05 := hb04.trans (hb5.mono hb04.size)
    refine ⟨_, rfl, hT5, ?_⟩
    refine wd_call rfl Tryz.call8 (vs := [.int .u8 a0, .int .i64 4]) rfl rfl ((c_version w5 a0 4 h0 h1 (by decide) (by decide)).mono ?_)
    rintro e wv ⟨rfl, rfl⟩
    refine ⟨_, rfl, hT5, ?_⟩
    refine wd_call rfl Tryz.call6 (vs := [.agg #[fv, .int .i64 0], .int .i64 (ver : Int), .agg #[.int .i64 N, v1, .bool nl, v2, v3]]) (congrArg (fun z => [some (Value.agg #[fv, .int .i64 0]), some (Value.int .i64 z), some (Value.agg #[.int .i64 N, v1, .bool nl, v2, v3])]) hvr) rfl
      ((write_any g32_nil unknown_all 3 wv (fun _ => False) fv F_BrokerRegistrationRequest 0 ver [.int .i64 N, v1, .bool nl, v2, v3] (.mk N Sb nl Lt U) (hF.mono (fun _ _ h => h.elim)) (hT0.keep (keeps_below hb05 (Nat.le_refl _))) (by kernel_rfl) hok (by rw [← hbd, lim_eq]; omega)).mono ?_)
    rintro e w6 ⟨d6, rfl, ho6, hb6⟩
    rw [← hbd] at ho6
    have hb06 := hb05.trans (hb6.mono hb05.size)
    refine ⟨_, rfl, (hb6.block _ (lt_of_some hT5)).trans hT5, ?_⟩
    refine wd_assign rfl rfl rfl ?_
    refine wd_done ?_
    have hr6 : BytesRep0 w6 (fun _ => False) d6 b := (OwnC.of_own ho6).bytes (fun _ _ _ h => h)
    obtain ⟨A6, c6, rfl, _⟩ := hr6.form
    refine wk_seq ?_
    refine wk_reg (id := 7) ?_
    refine wk_move rfl rfl ?_
    refine wk_move rfl rfl ?_
    refine wk_call Tryz.call8 (vs := [.int .u8 a0, .int .i64 4]) rfl rfl ((c_version w6 a0 4 h0 h1 (by decide) (by decide)).mono ?_)
    rintro e wu ⟨rfl, rfl⟩
    refine ⟨_, rfl, ?_⟩
    refine wk_move rfl rfl ?_
    refine wk_call Tryz.call9 (vs := [.int .i64 (ver : Int), .slice A6 b.length c6]) (congrArg (fun z => [some (Value.int .i64 z), some (Value.slice A6 b.length c6)]) hvr) rfl
      ((c_Again_BrokerRegistrationRequest hE hm V hcs hc0 wu (fun _ => False) (.slice A6 b.length c6) b hr6 hlb ((hb06.cell (p := ⟨1, 0, none⟩) hgl).trans hg)).mono ?_)
    rintro e w7 ⟨d7, ok7, rfl, hb7, hyes, _⟩
    refine ⟨_, rfl, ?_⟩
    obtain ⟨h7, ho7⟩ := hyes b hag
    subst h7
    have hb07 := hb06.trans (hb7.mono hb06.size)
    have hr67 := hr6.keep (keeps_below hb7 (Nat.le_refl _))
    by_cases hz : b.length = 0
    · have cz : cmp .eql (b.length : Int) 0 = some true := by simp [cmp, hz]
      refine wk_move rfl rfl ?_
      refine wk_extract rfl rfl rfl ?_
      refine wk_extract rfl rfl rfl ?_
      refine wk_assign rfl rfl ?_
      refine wk_assign rfl rfl ?_
      refine wk_nil ?_
      refine wk_seq ?_
      refine wk_seq ?_
      refine wk_reg (id := 8) ?_
      refine wk_move rfl rfl ?_
      refine wk_slen rfl Tryz.underlying22 rfl ?_
      refine wk_cmp rfl rfl (by with_reducible assumption) rfl ?_
      refine wk_nil ?_
      refine wk_condT rfl ?_
      refine wk_seq ?_
      refine wk_reg (id := 9) ?_
      refine wk_move rfl rfl ?_
      refine wk_assign rfl rfl ?_
      refine wk_nil ?_
      exact wk_ret r0 rfl rfl ⟨rfl, hb07⟩
    · have cz : cmp .eql (b.length : Int) 0 = some false := by simp only [cmp, Option.some.injEq, beq_eq_false_iff_ne]; omega
      obtain ⟨m, hm1, hm2⟩ := rem_nat a2 b.length h2 hz
      have e2 : IntKind.i64.wrap a2 = a2 := i64w a2 (by omega) (by omega)
      have hmm : (IntKind.i64.wrap a2).tmod (b.length : Int) = (m : Int) := by rw [e2]; exact hm1
      have hc6 := hr67.le
      refine wk_move rfl rfl ?_
      refine wk_extract rfl rfl rfl ?_
      refine wk_extract rfl rfl rfl ?_
      refine wk_assign rfl rfl ?_
      refine wk_assign rfl rfl ?_
      refine wk_nil ?_
      refine wk_seq ?_
      refine wk_seq ?_
      refine wk_reg (id := 8) ?_
      refine wk_move rfl rfl ?_
      refine wk_slen rfl Tryz.underlying22 rfl ?_
      refine wk_cmp rfl rfl (by with_reducible assumption) rfl ?_
      refine wk_nil ?_
      refine wk_condF rfl ?_
      refine wk_skip ?_
      refine wk_seq ?_
      refine wk_draw (fun _ => True) [(0, true), (1, true), (3, true), (4, true), (5, true), (6, true), (7, true), (8, true), (9, true), (2, false), (10, false), (11, true), (12, true), (13, true), (14, true), (15, true)] mixed pq0 (by kernel_rfl) (by kernel_rfl) (by kernel_rfl) (fun _ _ _ => trivial) ?_
      intro w8 h8 hb8
      have hb08 := hb07.trans (hb8.mono hb07.size)
      have hr68 := hr67.keep (keeps_below hb8 (Nat.le_refl _))
      refine wd_move rfl rfl rfl ?_
      refine wd_move rfl rfl rfl ?_
      refine wd_move rfl rfl rfl ?_
      refine wd_move rfl rfl rfl ?_
      refine wd_conv rfl rfl Tryz.underlying27 Tryz.underlying3 rfl ?_
      refine wd_move rfl rfl rfl ?_
      refine wd_slen rfl rfl Tryz.underlying22 rfl ?_
      refine wd_rem rfl rfl rfl (by omega) rfl ?_
      refine wd_sliceH (m := m) (ti := Tryz.t5) rfl rfl (congrArg (fun z => some (Value.int .i64 z)) hmm) Tryz.underlying22 (by kernel_rfl) (by omega) rfl ?_
      refine wd_call rfl Tryz.call8 (vs := [.int .u8 a0, .int .i64 4]) rfl rfl ((c_version w8 a0 4 h0 h1 (by decide) (by decide)).mono ?_)
      rintro e wx ⟨rfl, rfl⟩
      refine ⟨_, rfl, trivial, ?_⟩
      refine wd_call rfl Tryz.call9 (vs := [.int .i64 (ver : Int), .slice A6 m c6]) (congrArg (fun z => [some (Value.int .i64 z), some (Value.slice A6 m c6)]) hvr) rfl
        ((c_Again_BrokerRegistrationRequest hE hm V hcs hc0 wx (fun _ => False) (.slice A6 m c6) (b.take m) (hr68.cut hm2) (by rw [List.length_take]; omega) ((hb08.cell (p := ⟨1, 0, none⟩) hgl).trans hg)).mono ?_)
      rintro e w9 ⟨d9, ok9, rfl, hb9, _, hno⟩
      have h9 := hno (hcut m hm2)
      subst h9
      refine ⟨_, rfl, trivial, ?_⟩
      refine wd_move rfl rfl rfl ?_
      refine wd_extract rfl rfl rfl rfl ?_
      refine wd_extract rfl rfl rfl rfl ?_
      refine wd_assign rfl rfl rfl ?_
      refine wd_assign rfl rfl rfl ?_
      refine wd_done ?_
      refine wk_seq ?_
      refine wk_reg (id := 11) ?_
      refine wk_move rfl rfl ?_
      refine wk_move rfl rfl ?_
      refine wk_gT rfl ?_; refine wk_move rfl rfl ?_
      refine wk_gT rfl ?_; refine wk_not rfl rfl ?_
      refine wk_pick rfl rfl rfl rfl ?_
      refine wk_assign rfl rfl ?_
      refine wk_nil ?_
      exact wk_ret r0 rfl rfl ⟨rfl, hb08.trans (hb9.mono hb08.size)⟩
open Go.ChangeShapes Go.WideShapes Go.ChangeAt in
theorem reads_FnCutBrokerRegistrationRequest (os : Os) {H : Type} (enc : TypeId × Value → H) : ∃ places, DataW.whole enc Tryz.prog ((laidWorld os).forCall (fun _ _ => 0) ⟨#[], #[.int .u8 0, .agg #[.int .i64 0, .slice none 0 0, .bool false, .slice none 0 0, .slice none 0 0], .int .u16 0], []⟩).memory Tryz.f3.params.toList Rows.fnCutBrokerRegistrationRequestSpec.vars false #[.int .u8 0, .agg #[.int .i64 0, .slice none 0 0, .bool false, .slice none 0 0, .slice none 0 0], .int .u16 0].toList 12 = some ([.lit (.int .u8 0), .agg [.lit (.int .i64 0), .nil, .lit (.bool false), .nil, .nil], .lit (.int .u16 0)], [], places) :=
  ⟨[], by kernel_rfl⟩
open Go.ChangeShapes Go.WideShapes Go.ChangeAt in
set_option maxRecDepth 100000 in
set_option linter.unusedVariables false in
theorem lifted_FnCutBrokerRegistrationRequest (os : Os) (started : os.Started) (H : Type) (enc : TypeId × Value → H) (F : Stop.Interp) :
    ReturnsInHanded {} Tryz.checked os 3 .any ((Rows.OpenSpec.upto Rows.fnCutBrokerRegistrationRequestSpec).preRow enc Tryz.prog Tryz.f3 Rows.fnCutBrokerRegistrationRequestUptoRow.domain false Rows.fnCutBrokerRegistrationRequestUptoRow.laid) (((Rows.OpenSpec.upto Rows.fnCutBrokerRegistrationRequestSpec).at F).post enc Tryz.prog Tryz.f3 false true false false) := by
  obtain ⟨places, hx⟩ := reads_FnCutBrokerRegistrationRequest os enc
  refine returnsInHanded_of_row (C := Tryz.checked) (s := Rows.OpenSpec.upto Rows.fnCutBrokerRegistrationRequestSpec) own started (by kernel_rfl) Tryz.func3
    (witness_row_at (enc := enc) (C := Tryz.checked) false (laidWorld os) #[.int .u8 0, .agg #[.int .i64 0, .slice none 0 0, .bool false, .slice none 0 0, .slice none 0 0], .int .u16 0] rfl (by kernel_rfl) (by kernel_rfl) (by kernel_rfl)
      (OpenSpec.preRow_of_cond 12 hx (by kernel_rfl) (fun k hk => by cases hk; kernel_rfl) (by kernel_rfl) (laid_met os _))) ?_
  intro W base args ds gs before hval0 hW _ hcond hsz hL hsh _
  have hval : ∀ (j : Nat) t v, Tryz.f3.params[j]? = some t → args[j]? = some v → Value.okWide Tryz.prog W .any base t v := hval0
  have hW' := hW
  obtain ⟨p, q, hA0, hV, rfl, hfz, hnd⟩ := hW
  have hA : DataW.TrodAll enc Tryz.prog W 0 (fun _ => true) true Tryz.f3.params.toList args.toList ds p := hA0
  rw [Tryz.params3] at hA hval
  obtain ⟨E, hE, hg⟩ := sentinel hL
  obtain ⟨v0, vs0, d0, ds0, p0, q0, hargs, rfl, rfl, h0, r0⟩ := trodAll_cons hA
  obtain ⟨v1, vs1, d1, ds1, p1, q1, rfl, rfl, rfl, h1, r1⟩ := trodAll_cons r0
  obtain ⟨v2, vs2, d2, ds2, p2, q2, rfl, rfl, rfl, h2, r2⟩ := trodAll_cons r1
  obtain ⟨rfl, rfl, rfl⟩ := trodAll_nil r2
  obtain rfl : args = #[v0, v1, v2] := by cases args; simp_all
  obtain ⟨rfl, rfl⟩ := trodVars_none hV
  obtain ⟨a0, rfl, rfl, rfl, w0⟩ := open_int Tryz.underlying5 (hval 0 5 v0 rfl rfl) h0
  obtain ⟨ct, rfl, _⟩ := okWide_struct Tryz.underlying26 (hval 1 26 v1 rfl rfl)
  obtain ⟨vs, rfl⟩ : ∃ l : List Value, ct = l.toArray := ⟨ct.toList, by simp⟩
  obtain ⟨a2, rfl, rfl, rfl, w2⟩ := open_int Tryz.underlying27 (hval 2 27 v2 rfl rfl) h2
  have hbk : Rows.uptoBulkAll _ ≤ 1048576 := of_decide_eq_true (hcond Rows.uptoSmall rfl)
  have hbk1 : Rows.uptoBulk d1 ≤ 1048576 := by
    simp only [List.cons_append, List.nil_append, Rows.uptoBulkAll] at hbk
    omega
  obtain ⟨fu, hfu⟩ := id h1
  obtain ⟨t, n, hT, hok, hB, hn⟩ := tree_in fu vs (d1, p1) hfu hbk1
  clear hA0 hval0
  simp only [List.append_nil] at hW'
  refine (walk_CutBrokerRegistrationRequest hE a0 w0 a2 w2 W vs t n hT hok hB (Nat.le_trans hn hbk1) hg).mono fun e W' ⟨he, hb⟩ => ?_
  subst he
  have hlt : ∀ x ∈ p1, x.block < W.heap.size := fun x hx => hW'.lt x (by simp [hx])
  exact ⟨_, rfl, post_of_below (pa := [] ++ (p1 ++ ([] ++ []))) (pv := []) hW' (fun _ _ _ => (trodAll_cons_mk (shut_bool Tryz.underlying4 _) trodAll_mk0))
    (fun sp hsp => (trodAll_cons_mk (shut_int Tryz.underlying5 w0) (trodAll_cons_mk (WideElems.Trod_stays P_laid (by kernel_rfl) (of_decide_eq_true (by kernel_rfl)) h1 (fun x hx => hb.same (hlt x hx)) (fun x hx => hsp x (by simp [hx]))) (trodAll_cons_mk (shut_int Tryz.underlying27 w2) trodAll_mk0)))) (fun _ _ => rfl) (by simp)
    hb (ok_one (by kernel_rfl) rfl (okWide_bool_mk Tryz.underlying4 _))⟩
theorem named_FnCutBrokerRegistrationRequest : Tryz.prog.funcNamed Rows.fnCutBrokerRegistrationRequestUptoRow.func = some 3 := by kernel_rfl
theorem inPlace_FnCutBrokerRegistrationRequest : (Rows.fnCutBrokerRegistrationRequestUptoRow.inPlace == Tryz.prog.inPlace 3) = true := by kernel_rfl
theorem unfollowed_FnCutBrokerRegistrationRequest : (Rows.fnCutBrokerRegistrationRequestUptoRow.unfollowed == Tryz.prog.unfollowed 3) = true := by kernel_rfl
theorem recurses_FnCutBrokerRegistrationRequest : (Rows.fnCutBrokerRegistrationRequestUptoRow.recurses == Tryz.prog.recurses 3) = true := by kernel_rfl
theorem vars_FnCutBrokerRegistrationRequest : (Rows.fnCutBrokerRegistrationRequestUptoRow.named == Tryz.prog.varsNamed 3) = true := by kernel_rfl
theorem joined_FnCutBrokerRegistrationRequest : joinedFacts Tryz.prog 3 Tryz.f3 (Rows.OpenSpec.upto Rows.fnCutBrokerRegistrationRequestSpec).bare Rows.fnCutBrokerRegistrationRequestUptoRow = true := by
  unfold joinedFacts
  iterate 4 refine and2 ?_ (by as_aux_lemma => kernel_rfl)
  refine and2 (and2 (and2 (and2 ?_ P_heard) P_enter) P_lifts) P_make
  refine and2 (and2 ?_ P_keys) (by as_aux_lemma => kernel_rfl)
  iterate 9 refine and2 ?_ (by as_aux_lemma => kernel_rfl)
  refine and2 (and2 (and2 (and2 ?_ inPlace_FnCutBrokerRegistrationRequest) unfollowed_FnCutBrokerRegistrationRequest) recurses_FnCutBrokerRegistrationRequest) vars_FnCutBrokerRegistrationRequest
  iterate 6 refine and2 ?_ (by as_aux_lemma => kernel_rfl)
  refine and2 (and2 ?_ P_laid) P_maps
  kernel_rfl
theorem said_FnCutBrokerRegistrationRequest : Rows.FnCutBrokerRegistrationRequestUptoSaid :=
  OpenClaim.holds_of_cond 3 Tryz.f3 rfl rfl rfl rfl rfl rfl rfl ⟨rfl, rfl, rfl, rfl, rfl⟩ rfl rfl rfl rfl rfl named_FnCutBrokerRegistrationRequest Tryz.func3 joined_FnCutBrokerRegistrationRequest
    (of_decide_eq_true (by as_aux_lemma => kernel_rfl)) (by unfold Func.isWrapper; first | (rw [if_pos (by decide +kernel)]; kernel_rfl) | (rw [if_neg (by decide +kernel)]; exact ⟨rfl, rfl⟩))
    (fun os started H enc _ F => by rw [OpenClaim.pre_eq_preRow]; exact lifted_FnCutBrokerRegistrationRequest os started H enc F)
theorem looks_FnCutBrokerRegistrationRequest : false = Tryz.pinned.checked.prog.looks [] := by kernel_rfl
theorem plain_FnCutBrokerRegistrationRequest (f : FuncId) (fn : Func) (hf : Tryz.pinned.checked.prog.funcNamed Rows.fnCutBrokerRegistrationRequestUptoRow.func = some f) (hfn : Tryz.pinned.checked.prog.funcs[f]? = some fn) :
    false = Tryz.pinned.checked.prog.looks [] ∧ ∀ (j : Nat) t, fn.params[j]? = some t → Tryz.pinned.checked.prog.wantsStandIn t = false := by
  obtain rfl : f = 3 := Option.some.inj (hf.symm.trans named_FnCutBrokerRegistrationRequest)
  obtain rfl : fn = Tryz.f3 := (Option.some.inj (Tryz.func3.symm.trans hfn)).symm
  refine ⟨looks_FnCutBrokerRegistrationRequest, fun j t ht => ?_⟩
  rw [Tryz.params3] at ht
  have h : t = 5 ∨ t = 26 ∨ t = 27 := by simpa using Array.mem_of_getElem? ht
  rcases h with rfl | rfl | rfl
  · exact (show Tryz.prog.wantsStandIn 5 = false by kernel_rfl)
  · exact (show Tryz.prog.wantsStandIn 26 = false by kernel_rfl)
  · exact (show Tryz.prog.wantsStandIn 27 = false by kernel_rfl)
/-- The card. -/
theorem holds_FnCutBrokerRegistrationRequest : Rows.FnCutBrokerRegistrationRequestUptoCardSaid :=
  Claim7.holds_tied_plain_at .later [] _ _ _ _ said_FnCutBrokerRegistrationRequest (fun _ h => by cases h) (by kernel_rfl) (fun _ h => by cases h) fnCutBrokerRegistrationRequestUpto_row_tie rfl ⟨rfl, rfl⟩ (by kernel_rfl) rfl plain_FnCutBrokerRegistrationRequest (by kernel_rfl)
#print axioms holds_FnCutBrokerRegistrationRequest
end Go.Proofs.YthejiimocbfagabGreatDoor
