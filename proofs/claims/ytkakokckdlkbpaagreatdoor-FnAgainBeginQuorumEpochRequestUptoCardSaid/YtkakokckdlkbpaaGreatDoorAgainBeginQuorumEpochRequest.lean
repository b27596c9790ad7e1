/-
  What the reference writes of a tree as a BeginQuorumEpochRequest is read, and written back byte by byte; for every input that the row lets in, of bulk at most 1048576 (the variable ErrNotEnoughData as the program lays it).
-/
import Derived.Test.YtkakokckdlkbpaaGreatDoorMsgBeginQuorumEpochRequest
import Derived.Test.YtkakokckdlkbpaaGreatDoorAgFacts
import Derived.Test.YtkakokckdlkbpaaGreatDoorAgTree
import Derived.Test.YtkakokckdlkbpaaGreatDoorCards
import Derived.Test.YtkakokckdlkbpaaGreatDoorTie
set_option linter.unusedVariables false
set_option linter.unusedSimpArgs false
namespace Go.Proofs.YtkakokckdlkbpaaGreatDoor
open Go Go.RowKit Go.Proofs.Eng
set_option maxRecDepth 20000
set_option maxHeartbeats 4000000

def F_sBeginQuorumEpochRequestTopicPartition : List Fld := [.mk 3 0 (-1) (-1) (-1) 0 0 [], .mk 7 1 (-1) (-1) (-1) 0 0 [], .mk 3 0 (-1) (-1) (-1) 0 0 [], .mk 3 0 (-1) (-1) (-1) 0 0 []]
theorem c_sBeginQuorumEpochRequestTopicPartition (w : World) : Calls Tryz.prog 160 #[] w fun e w' => ∃ v, e = .returned v ∧ FRep w' (fun b => b < w.heap.size) v F_sBeginQuorumEpochRequestTopicPartition ∧ Below w.heap.size w w' := by
  refine calls_wk (args := []) Tryz.func160 rfl rfl ?_
  refine wk_seq ?_
  refine wk_reg (id := 0) ?_
  refine wk_assign rfl rfl ?_
  refine wk_nil ?_
  refine wk_seq ?_
  refine wk_reg (id := 1) ?_
  have hB0 := Below.refl w.heap.size w
  refine wk_build (vs := [(0, .int .i64 3), (2, .int .i64 (-1)), (3, .int .i64 (-1)), (4, .int .i64 (-1))]) (cells := #[.int .i64 3, .int .i64 0, .int .i64 (-1), .int .i64 (-1), .int .i64 (-1), .int .i64 0, .int .i64 0, .slice none 0 0]) rfl (by kernel_rfl) rfl ?_
  refine wk_build (vs := [(0, .int .i64 7), (1, .int .i64 1), (2, .int .i64 (-1)), (3, .int .i64 (-1)), (4, .int .i64 (-1))]) (cells := #[.int .i64 7, .int .i64 1, .int .i64 (-1), .int .i64 (-1), .int .i64 (-1), .int .i64 0, .int .i64 0, .slice none 0 0]) rfl (by kernel_rfl) rfl ?_
  refine wk_build (vs := [(0, .int .i64 3), (2, .int .i64 (-1)), (3, .int .i64 (-1)), (4, .int .i64 (-1))]) (cells := #[.int .i64 3, .int .i64 0, .int .i64 (-1), .int .i64 (-1), .int .i64 (-1), .int .i64 0, .int .i64 0, .slice none 0 0]) rfl (by kernel_rfl) rfl ?_
  refine wk_build (vs := [(0, .int .i64 3), (2, .int .i64 (-1)), (3, .int .i64 (-1)), (4, .int .i64 (-1))]) (cells := #[.int .i64 3, .int .i64 0, .int .i64 (-1), .int .i64 (-1), .int .i64 (-1), .int .i64 0, .int .i64 0, .slice none 0 0]) rfl (by kernel_rfl) rfl ?_
  refine wk_buildS (e := 46) (vs := [(0, .agg #[.int .i64 3, .int .i64 0, .int .i64 (-1), .int .i64 (-1), .int .i64 (-1), .int .i64 0, .int .i64 0, .slice none 0 0]), (1, .agg #[.int .i64 7, .int .i64 1, .int .i64 (-1), .int .i64 (-1), .int .i64 (-1), .int .i64 0, .int .i64 0, .slice none 0 0]), (2, .agg #[.int .i64 3, .int .i64 0, .int .i64 (-1), .int .i64 (-1), .int .i64 (-1), .int .i64 0, .int .i64 0, .slice none 0 0]), (3, .agg #[.int .i64 3, .int .i64 0, .int .i64 (-1), .int .i64 (-1), .int .i64 (-1), .int .i64 0, .int .i64 0, .slice none 0 0])]) (cells := (fcells F_sBeginQuorumEpochRequestTopicPartition [.slice none 0 0, .slice none 0 0, .slice none 0 0, .slice none 0 0]).toArray) (ie := Tryz.t46) (zv := .agg #[.int .i64 0, .int .i64 0, .int .i64 0, .int .i64 0, .int .i64 0, .int .i64 0, .int .i64 0, .slice none 0 0]) rfl Tryz.underlying30 (by kernel_rfl) rfl rfl rfl (by kernel_rfl) rfl ?_
  have hr := frep_build (fs := F_sBeginQuorumEpochRequestTopicPartition) (X := fun b => b < w.heap.size) (vs := [.slice none 0 0, .slice none 0 0, .slice none 0 0, .slice none 0 0]) (Nat.not_lt.2 hB0.size) (heap_alloc_last w (.cells ((fcells F_sBeginQuorumEpochRequestTopicPartition [.slice none 0 0, .slice none 0 0, .slice none 0 0, .slice none 0 0]).toArray) 46)) rfl rfl (And.intro .nil (And.intro .nil (And.intro .nil (And.intro .nil trivial))))
  refine wk_assign rfl rfl ?_
  refine wk_nil ?_
  exact wk_ret r0 rfl rfl ⟨_, rfl, hr, hB0.trans ((below1 _ _).mono hB0.size)⟩
def F_sBeginQuorumEpochRequestTopic : List Fld := [.mk 8 0 (-1) (-1) (-1) 0 0 [], .mk 11 0 (-1) (-1) (-1) 0 10 F_sBeginQuorumEpochRequestTopicPartition]
theorem c_sBeginQuorumEpochRequestTopic (w : World) : Calls Tryz.prog 100 #[] w fun e w' => ∃ v, e = .returned v ∧ FRep w' (fun b => b < w.heap.size) v F_sBeginQuorumEpochRequestTopic ∧ Below w.heap.size w w' := by
  refine calls_wk (args := []) Tryz.func100 rfl rfl ?_
  refine wk_seq ?_
  refine wk_reg (id := 0) ?_
  refine wk_assign rfl rfl ?_
  refine wk_nil ?_
  refine wk_seq ?_
  refine wk_reg (id := 1) ?_
  have hB0 := Below.refl w.heap.size w
  refine wk_build (vs := [(0, .int .i64 8), (2, .int .i64 (-1)), (3, .int .i64 (-1)), (4, .int .i64 (-1))]) (cells := #[.int .i64 8, .int .i64 0, .int .i64 (-1), .int .i64 (-1), .int .i64 (-1), .int .i64 0, .int .i64 0, .slice none 0 0]) rfl (by kernel_rfl) rfl ?_
  refine wk_call Tryz.call160 (vs := []) rfl rfl ((c_sBeginQuorumEpochRequestTopicPartition _).mono ?_)
  rintro e w1 ⟨v1, rfl, hf1, hb1⟩
  refine ⟨_, rfl, ?_⟩
  obtain ⟨A1, c1, rfl⟩ := hf1.form
  have hB1 := hB0.trans (hb1.mono hB0.size)
  refine wk_build (vs := [(0, .int .i64 11), (2, .int .i64 (-1)), (3, .int .i64 (-1)), (4, .int .i64 (-1)), (6, .int .i64 10), (7, .slice A1 F_sBeginQuorumEpochRequestTopicPartition.length c1)]) (cells := #[.int .i64 11, .int .i64 0, .int .i64 (-1), .int .i64 (-1), .int .i64 (-1), .int .i64 0, .int .i64 10, .slice A1 F_sBeginQuorumEpochRequestTopicPartition.length c1]) rfl (by kernel_rfl) rfl ?_
  refine wk_buildS (e := 46) (vs := [(0, .agg #[.int .i64 8, .int .i64 0, .int .i64 (-1), .int .i64 (-1), .int .i64 (-1), .int .i64 0, .int .i64 0, .slice none 0 0]), (1, .agg #[.int .i64 11, .int .i64 0, .int .i64 (-1), .int .i64 (-1), .int .i64 (-1), .int .i64 0, .int .i64 10, .slice A1 F_sBeginQuorumEpochRequestTopicPartition.length c1])]) (cells := (fcells F_sBeginQuorumEpochRequestTopic [.slice none 0 0, .slice A1 F_sBeginQuorumEpochRequestTopicPartition.length c1]).toArray) (ie := Tryz.t46) (zv := .agg #[.int .i64 0, .int .i64 0, .int .i64 0, .int .i64 0, .int .i64 0, .int .i64 0, .int .i64 0, .slice none 0 0]) rfl Tryz.underlying30 (by kernel_rfl) rfl rfl rfl (by kernel_rfl) rfl ?_
  have hr := frep_build (fs := F_sBeginQuorumEpochRequestTopic) (X := fun b => b < w.heap.size) (vs := [.slice none 0 0, .slice A1 F_sBeginQuorumEpochRequestTopicPartition.length c1]) (Nat.not_lt.2 hB1.size) (heap_alloc_last w1 (.cells ((fcells F_sBeginQuorumEpochRequestTopic [.slice none 0 0, .slice A1 F_sBeginQuorumEpochRequestTopicPartition.length c1]).toArray) 46)) rfl rfl (And.intro .nil (And.intro ((hf1.mono (fun b _ h => Nat.lt_of_lt_of_le h (hB0.size))).keep (keeps_below (below1 _ _) (Nat.le_refl _))) trivial))
  refine wk_assign rfl rfl ?_
  refine wk_nil ?_
  exact wk_ret r0 rfl rfl ⟨_, rfl, hr, hB1.trans ((below1 _ _).mono hB1.size)⟩
def F_sBeginQuorumEpochRequestLeaderEndpoint : List Fld := [.mk 8 0 (-1) (-1) (-1) 0 0 [], .mk 8 0 (-1) (-1) (-1) 0 0 [], .mk 5 0 (-1) (-1) (-1) 0 0 []]
theorem c_sBeginQuorumEpochRequestLeaderEndpoint (w : World) : Calls Tryz.prog 101 #[] w fun e w' => ∃ v, e = .returned v ∧ FRep w' (fun b => b < w.heap.size) v F_sBeginQuorumEpochRequestLeaderEndpoint ∧ Below w.heap.size w w' := by
  refine calls_wk (args := []) Tryz.func101 rfl rfl ?_
  refine wk_seq ?_
  refine wk_reg (id := 0) ?_
  refine wk_assign rfl rfl ?_
  refine wk_nil ?_
  refine wk_seq ?_
  refine wk_reg (id := 1) ?_
  have hB0 := Below.refl w.heap.size w
  refine wk_build (vs := [(0, .int .i64 8), (2, .int .i64 (-1)), (3, .int .i64 (-1)), (4, .int .i64 (-1))]) (cells := #[.int .i64 8, .int .i64 0, .int .i64 (-1), .int .i64 (-1), .int .i64 (-1), .int .i64 0, .int .i64 0, .slice none 0 0]) rfl (by kernel_rfl) rfl ?_
  refine wk_build (vs := [(0, .int .i64 8), (2, .int .i64 (-1)), (3, .int .i64 (-1)), (4, .int .i64 (-1))]) (cells := #[.int .i64 8, .int .i64 0, .int .i64 (-1), .int .i64 (-1), .int .i64 (-1), .int .i64 0, .int .i64 0, .slice none 0 0]) rfl (by kernel_rfl) rfl ?_
  refine wk_build (vs := [(0, .int .i64 5), (2, .int .i64 (-1)), (3, .int .i64 (-1)), (4, .int .i64 (-1))]) (cells := #[.int .i64 5, .int .i64 0, .int .i64 (-1), .int .i64 (-1), .int .i64 (-1), .int .i64 0, .int .i64 0, .slice none 0 0]) rfl (by kernel_rfl) rfl ?_
  refine wk_buildS (e := 46) (vs := [(0, .agg #[.int .i64 8, .int .i64 0, .int .i64 (-1), .int .i64 (-1), .int .i64 (-1), .int .i64 0, .int .i64 0, .slice none 0 0]), (1, .agg #[.int .i64 8, .int .i64 0, .int .i64 (-1), .int .i64 (-1), .int .i64 (-1), .int .i64 0, .int .i64 0, .slice none 0 0]), (2, .agg #[.int .i64 5, .int .i64 0, .int .i64 (-1), .int .i64 (-1), .int .i64 (-1), .int .i64 0, .int .i64 0, .slice none 0 0])]) (cells := (fcells F_sBeginQuorumEpochRequestLeaderEndpoint [.slice none 0 0, .slice none 0 0, .slice none 0 0]).toArray) (ie := Tryz.t46) (zv := .agg #[.int .i64 0, .int .i64 0, .int .i64 0, .int .i64 0, .int .i64 0, .int .i64 0, .int .i64 0, .slice none 0 0]) rfl Tryz.underlying30 (by kernel_rfl) rfl rfl rfl (by kernel_rfl) rfl ?_
  have hr := frep_build (fs := F_sBeginQuorumEpochRequestLeaderEndpoint) (X := fun b => b < w.heap.size) (vs := [.slice none 0 0, .slice none 0 0, .slice none 0 0]) (Nat.not_lt.2 hB0.size) (heap_alloc_last w (.cells ((fcells F_sBeginQuorumEpochRequestLeaderEndpoint [.slice none 0 0, .slice none 0 0, .slice none 0 0]).toArray) 46)) rfl rfl (And.intro .nil (And.intro .nil (And.intro .nil trivial)))
  refine wk_assign rfl rfl ?_
  refine wk_nil ?_
  exact wk_ret r0 rfl rfl ⟨_, rfl, hr, hB0.trans ((below1 _ _).mono hB0.size)⟩
def F_BeginQuorumEpochRequest : List Fld := [.mk 8 0 (-1) 0 (-1) 0 0 [], .mk 3 1 (-1) (-1) (-1) (-1) 0 [], .mk 11 0 (-1) (-1) (-1) 0 10 F_sBeginQuorumEpochRequestTopic, .mk 11 1 (-1) (-1) (-1) 0 10 F_sBeginQuorumEpochRequestLeaderEndpoint]
theorem c_BeginQuorumEpochRequest (w : World) : Calls Tryz.prog 42 #[] w fun e w' => ∃ v, e = .returned (.agg #[v, .int .i64 1]) ∧ FRep w' (fun b => b < w.heap.size) v F_BeginQuorumEpochRequest ∧ Below w.heap.size w w' := by
  refine calls_wk (args := []) Tryz.func42 rfl rfl ?_
  refine wk_seq ?_
  refine wk_reg (id := 0) ?_
  refine wk_alloc (t := 32) (i := Tryz.t32) (by kernel_rfl) rfl rfl ?_
  refine wk_nil ?_
  refine wk_seq ?_
  refine wk_reg (id := 1) ?_
  have hB0 : Below w.heap.size w (w.alloc (.cells (Value.agg #[.slice none 0 0, .int .i64 0]).cells 32)) := below1 _ _
  have hM0 : (w.alloc (.cells (Value.agg #[.slice none 0 0, .int .i64 0]).cells 32)).heap[w.heap.size]? = some (.cells #[.slice none 0 0, .int .i64 0] 32 (0, 0)) := heap_alloc_last _ _
  refine wk_build (vs := [(0, .int .i64 8), (2, .int .i64 (-1)), (3, .int .i64 0), (4, .int .i64 (-1))]) (cells := #[.int .i64 8, .int .i64 0, .int .i64 (-1), .int .i64 0, .int .i64 (-1), .int .i64 0, .int .i64 0, .slice none 0 0]) rfl (by kernel_rfl) rfl ?_
  refine wk_build (vs := [(0, .int .i64 3), (1, .int .i64 1), (2, .int .i64 (-1)), (3, .int .i64 (-1)), (4, .int .i64 (-1)), (5, .int .i64 (-1))]) (cells := #[.int .i64 3, .int .i64 1, .int .i64 (-1), .int .i64 (-1), .int .i64 (-1), .int .i64 (-1), .int .i64 0, .slice none 0 0]) rfl (by kernel_rfl) rfl ?_
  refine wk_call Tryz.call100 (vs := []) rfl rfl ((c_sBeginQuorumEpochRequestTopic _).mono ?_)
  rintro e w1 ⟨v1, rfl, hf1, hb1⟩
  refine ⟨_, rfl, ?_⟩
  obtain ⟨A1, c1, rfl⟩ := hf1.form
  have hB1 := hB0.trans (hb1.mono hB0.size)
  have hM1 := (hb1.block _ (lt_of_some hM0)).trans hM0
  refine wk_build (vs := [(0, .int .i64 11), (2, .int .i64 (-1)), (3, .int .i64 (-1)), (4, .int .i64 (-1)), (6, .int .i64 10), (7, .slice A1 F_sBeginQuorumEpochRequestTopic.length c1)]) (cells := #[.int .i64 11, .int .i64 0, .int .i64 (-1), .int .i64 (-1), .int .i64 (-1), .int .i64 0, .int .i64 10, .slice A1 F_sBeginQuorumEpochRequestTopic.length c1]) rfl (by kernel_rfl) rfl ?_
  refine wk_call Tryz.call101 (vs := []) rfl rfl ((c_sBeginQuorumEpochRequestLeaderEndpoint _).mono ?_)
  rintro e w2 ⟨v2, rfl, hf2, hb2⟩
  refine ⟨_, rfl, ?_⟩
  obtain ⟨A2, c2, rfl⟩ := hf2.form
  have hB2 := hB1.trans (hb2.mono hB1.size)
  have hM2 := (hb2.block _ (lt_of_some hM1)).trans hM1
  refine wk_build (vs := [(0, .int .i64 11), (1, .int .i64 1), (2, .int .i64 (-1)), (3, .int .i64 (-1)), (4, .int .i64 (-1)), (6, .int .i64 10), (7, .slice A2 F_sBeginQuorumEpochRequestLeaderEndpoint.length c2)]) (cells := #[.int .i64 11, .int .i64 1, .int .i64 (-1), .int .i64 (-1), .int .i64 (-1), .int .i64 0, .int .i64 10, .slice A2 F_sBeginQuorumEpochRequestLeaderEndpoint.length c2]) rfl (by kernel_rfl) rfl ?_
  refine wk_buildS (e := 46) (vs := [(0, .agg #[.int .i64 8, .int .i64 0, .int .i64 (-1), .int .i64 0, .int .i64 (-1), .int .i64 0, .int .i64 0, .slice none 0 0]), (1, .agg #[.int .i64 3, .int .i64 1, .int .i64 (-1), .int .i64 (-1), .int .i64 (-1), .int .i64 (-1), .int .i64 0, .slice none 0 0]), (2, .agg #[.int .i64 11, .int .i64 0, .int .i64 (-1), .int .i64 (-1), .int .i64 (-1), .int .i64 0, .int .i64 10, .slice A1 F_sBeginQuorumEpochRequestTopic.length c1]), (3, .agg #[.int .i64 11, .int .i64 1, .int .i64 (-1), .int .i64 (-1), .int .i64 (-1), .int .i64 0, .int .i64 10, .slice A2 F_sBeginQuorumEpochRequestLeaderEndpoint.length c2])]) (cells := (fcells F_BeginQuorumEpochRequest [.slice none 0 0, .slice none 0 0, .slice A1 F_sBeginQuorumEpochRequestTopic.length c1, .slice A2 F_sBeginQuorumEpochRequestLeaderEndpoint.length c2]).toArray) (ie := Tryz.t46) (zv := .agg #[.int .i64 0, .int .i64 0, .int .i64 0, .int .i64 0, .int .i64 0, .int .i64 0, .int .i64 0, .slice none 0 0]) rfl Tryz.underlying30 (by kernel_rfl) rfl rfl rfl (by kernel_rfl) rfl ?_
  refine wk_build (vs := [(1, .int .i64 1), (0, .slice (some ⟨w2.heap.size, 0, none⟩) 4 4)]) (cells := #[.slice (some ⟨w2.heap.size, 0, none⟩) 4 4, .int .i64 1]) rfl (by kernel_rfl) rfl ?_
  have hMS := ((below1 w2 (.cells ((fcells F_BeginQuorumEpochRequest [.slice none 0 0, .slice none 0 0, .slice A1 F_sBeginQuorumEpochRequestTopic.length c1, .slice A2 F_sBeginQuorumEpochRequestLeaderEndpoint.length c2]).toArray) 46)).block _ (lt_of_some hM2)).trans hM2
  have hr := frep_build (fs := F_BeginQuorumEpochRequest) (X := fun b => b < w.heap.size + 1) (vs := [.slice none 0 0, .slice none 0 0, .slice A1 F_sBeginQuorumEpochRequestTopic.length c1, .slice A2 F_sBeginQuorumEpochRequestLeaderEndpoint.length c2]) (Nat.not_lt.2 (lt_of_some hM2)) (heap_alloc_last w2 (.cells ((fcells F_BeginQuorumEpochRequest [.slice none 0 0, .slice none 0 0, .slice A1 F_sBeginQuorumEpochRequestTopic.length c1, .slice A2 F_sBeginQuorumEpochRequestLeaderEndpoint.length c2]).toArray) 46)) rfl rfl (And.intro .nil (And.intro .nil (And.intro (((hf1.mono (fun b _ h => Nat.lt_of_lt_of_le h (lt_of_some hM0))).keep (keeps_below hb2 (Nat.le_refl _))).keep (keeps_below (below1 _ _) (Nat.le_refl _))) (And.intro ((hf2.mono (fun b _ h => Nat.lt_of_lt_of_le h (lt_of_some hM1))).keep (keeps_below (below1 _ _) (Nat.le_refl _))) trivial))))
  refine wk_storeRow (i := Tryz.t32) (cs := #[.slice (some ⟨w2.heap.size, 0, none⟩) 4 4, .int .i64 1]) rfl rfl hMS (by kernel_rfl) rfl rfl (one2 rfl rfl) ?_
  refine wk_nil ?_
  refine wk_retc r0 rfl rfl (loadVar_cells (vs := [.slice (some ⟨w2.heap.size, 0, none⟩) 4 4, .int .i64 1]) Tryz.underlying32 rfl (show Tryz.prog.info? 32 = some Tryz.t32 by kernel_rfl) rfl (cells_blk (setRow_heap _ _ _ _ _ _ hMS))) ⟨_, rfl, ?_, ?_⟩
  · exact (hr.keep (keeps_setRow (X := fun b => b < w.heap.size + 1) (b := w.heap.size) _ (Nat.lt_succ_self w.heap.size) _)).mono (fun b _ h => Nat.lt_succ_of_lt h)
  · exact below_setRow (hB2.trans ((below1 _ _).mono hB2.size)) (Nat.le_refl _) _
theorem okt_BeginQuorumEpochRequest (v : Nat) (h : v ≤ 1) : ∃ S cs, VOK_BeginQuorumEpochRequest v S ∧ cvs0 ks_BeginQuorumEpochRequest (dv_BeginQuorumEpochRequest v) = some cs ∧ cs[0]? = some (.int .i16 v) ∧ isNilS (mF 4 (v : Int) (decide ((0 : Int) ≤ 1) && decide ((1 : Int) ≤ (v : Int))) F_BeginQuorumEpochRequest S) = true := by
  have key : ∀ v : Nat, ((match ver_BeginQuorumEpochRequest v with | some S => isNilS (mF 4 (v : Int) (decide ((0 : Int) ≤ 1) && decide ((1 : Int) ≤ (v : Int))) F_BeginQuorumEpochRequest S) | none => false) && (match cvs0 ks_BeginQuorumEpochRequest (dv_BeginQuorumEpochRequest v) with | some (.int .i16 n :: _) => decide (n = (v : Int)) | _ => false)) = true → ∃ S cs, VOK_BeginQuorumEpochRequest v S ∧ cvs0 ks_BeginQuorumEpochRequest (dv_BeginQuorumEpochRequest v) = some cs ∧ cs[0]? = some (.int .i16 v) ∧ isNilS (mF 4 (v : Int) (decide ((0 : Int) ≤ 1) && decide ((1 : Int) ≤ (v : Int))) F_BeginQuorumEpochRequest S) = true := by
    intro v h
    simp only [Bool.and_eq_true] at h
    have h1 := h.1
    split at h1
    · rename_i S hS
      have h2 := h.2
      split at h2
      · rename_i n r hc
        exact ⟨S, _, verS_ok hS, hc, by rw [← of_decide_eq_true h2]; rfl, h1⟩
      · cases h2
    · cases h1
  have h : v = 0 ∨ v = 1 := by omega
  rcases h with rfl | rfl <;> exact key _ (by kernel_rfl)
/-! ## the law -/
theorem walk_AgainBeginQuorumEpochRequest {E : Value} (hE : ∃ u q, E = .iface u q) (a0 : Int) (w0 : (Lit.int .u8 a0).wf = true) (w : World) (vs : List Value) (t : Tree) (n : Nat) (hT : TRep w (fun _ => False) vs t) (hok : TOk G32 t) (hB : TB t n) (hn : n ≤ 1048576) (hg : w.cell? ⟨1, 0, none⟩ = some E) : Calls Tryz.prog 11 #[.int .u8 a0, .agg vs.toArray] w fun e w' => e = .returned (.bool true) ∧ Below w.heap.size w w' := by
  obtain ⟨h0, h1⟩ := bounds_u8 w0
  obtain ⟨ver, hvr, hm⟩ := ver_of a0 1 h0
  obtain ⟨S, cs, V, hcs, hc0, hmf⟩ := okt_BeginQuorumEpochRequest ver hm
  have hS : SOk S 0 cs.length = true := by rw [(cvs0_ok hcs).2.1.1]; exact SOk.lo V.ok (Nat.zero_le _)
  obtain ⟨out, hRW, _, _⟩ := again_law hS hmf hok
  have hlen := part_le 4 (ver : Int) (decide ((0 : Int) ≤ 1) && decide ((1 : Int) ≤ (ver : Int))) F_BeginQuorumEpochRequest t n (by kernel_rfl) hB
  have hlb := mul_le_lim hlen hn (Nat.le_of_ble_eq_true (by kernel_rfl))
  have hag := again_ok hS hRW
  obtain ⟨b, hbd⟩ : ∃ b, b = sWrite 4 F_BeginQuorumEpochRequest 1 (ver : Int) t := ⟨_, rfl⟩
  have hbd2 : sPart 4 (ver : Int) (decide ((0 : Int) ≤ 1) && decide ((1 : Int) ≤ (ver : Int))) F_BeginQuorumEpochRequest t = b := hbd.symm
  rw [hbd2] at hlb hag
  clear hRW hlen hbd2
  have hgl : 1 < w.heap.size := lt_of_cell hg
  have cm : cmp .lss 1 0 = some false := rfl
  have hT0 := hT
  obtain ⟨N, Sb, nl, Lt, U, v1, v2, v3, cells, hN, hSr, hL, hU, hr⟩ := hT
  have hT1 := heap_alloc_new w (.cells #[.int .i64 N, v1, .bool nl, v2, v3] 26)
  have hb1 := below1 w (.cells #[.int .i64 N, v1, .bool nl, v2, v3] 26)
  refine calls_wk (args := [.int .u8 a0, .agg #[.int .i64 N, v1, .bool nl, v2, v3]]) Tryz.func11 rfl rfl ?_
  refine wk_seq ?_
  refine wk_reg (id := 0) ?_
  refine wk_box rfl rfl ?_
  refine wk_assign rfl rfl ?_
  refine wk_nil ?_
  refine wk_seq ?_
  refine wk_seq ?_
  refine wk_reg (id := 1) ?_
  refine wk_loadA (i := Tryz.t26) rfl Tryz.underlying26 rfl (by kernel_rfl) rfl (by exact cells_new) rfl ?_
  first
    | refine wk_loadA (i := Tryz.t26) rfl Tryz.underlying26 rfl (by kernel_rfl) (vs := [.int .i64 N, v1, .bool nl, v2, v3]) rfl (cells_blk hT1) rfl ?_
    | skip
  skip
  refine wk_call Tryz.call13 (vs := [.agg #[.int .i64 N, v1, .bool nl, v2, v3]]) rfl rfl ((fits2 _ (fun _ => False) [.int .i64 N, v1, .bool nl, v2, v3] (.mk N Sb nl Lt U) (hT0.keep (keeps_below hb1 (Nat.le_refl _)))).mono ?_)
  rintro e w2 ⟨bf, rfl, hbf⟩
  refine ⟨_, rfl, ?_⟩
  have hb2 := hb1.trans (hbf.mono hb1.size)
  refine wk_not rfl rfl ?_
  refine wk_nil ?_
  cases bf with
  | false =>
    skip
    refine wk_condT rfl ?_
    refine wk_seq ?_
    refine wk_reg (id := 2) ?_
    refine wk_assign rfl rfl ?_
    refine wk_nil ?_
    exact wk_ret r0 rfl rfl ⟨rfl, hb2⟩
  | true =>
    skip
    refine wk_condF rfl ?_
    refine wk_skip ?_
    refine wk_seq ?_
    refine wk_reg (id := 3) ?_
    refine wk_call Tryz.call41 (vs := []) rfl rfl ((c_Max_BeginQuorumEpochRequest w2).mono ?_)
    rintro e w3 ⟨rfl, hbm⟩
    refine ⟨_, rfl, ?_⟩
    have hb3 := hb2.trans (hbm.mono hb2.size)
    have hT3 := ((hbf.trans (hbm.mono hbf.size)).block _ (lt_of_some hT1)).trans hT1
    refine wk_assign rfl rfl ?_
    refine wk_nil ?_
    refine wk_seq ?_
    refine wk_seq ?_
    refine wk_reg (id := 4) ?_
    refine wk_move rfl rfl ?_
    refine wk_cmp rfl rfl (by with_reducible assumption) rfl ?_
    refine wk_nil ?_
    refine wk_condF rfl ?_
    refine wk_skip ?_
    refine wk_seq ?_
    refine wk_draw (fun w' => w'.heap[w.heap.size]? = some (.cells #[.int .i64 N, v1, .bool nl, v2, v3] 26 (0, 0))) [(1, true), (2, true), (4, true), (0, false), (3, false), (5, false), (6, true)] mixed pq0 (by kernel_rfl) (by kernel_rfl) (by kernel_rfl) (fun w5 h5 _ => by rw [h5]; exact hT3) ?_
    intro w4 h4 hb4
    have hT4 : w4.heap[w.heap.size]? = some (.cells #[.int .i64 N, v1, .bool nl, v2, v3] 26 (0, 0)) := by rw [h4]; exact hT3
    have hb04 := hb3.trans (hb4.mono hb3.size)
    refine wd_move rfl rfl rfl ?_
    refine wd_move rfl rfl rfl ?_
    refine wd_loadA (ti := Tryz.t26) rfl rfl Tryz.underlying26 rfl (by kernel_rfl) (vs := [.int .i64 N, v1, .bool nl, v2, v3]) rfl (fun w' hS => cells_blk hS) rfl ?_
    refine wd_call rfl Tryz.call42 (vs := []) rfl rfl ((c_BeginQuorumEpochRequest w4).mono ?_)
    rintro e w5 ⟨fv, rfl, hF, hb5⟩
    have hT5 := (hb5.block _ (lt_of_some hT4)).trans hT4
    have hb05 := hb04.trans (hb5.mono hb04.size)
    refine ⟨_, rfl, hT5, ?_⟩
    refine wd_call rfl Tryz.call17 (vs := [.int .u8 a0, .int .i64 1]) rfl rfl ((c_version w5 a0 1 h0 h1 (by decide) (by decide)).mono ?_)
    rintro e wv ⟨rfl, rfl⟩
    refine ⟨_, rfl, hT5, ?_⟩
    refine wd_call rfl Tryz.call15 (vs := [.agg #[fv, .int .i64 1], .int .i64 (ver : Int), .agg #[.int .i64 N, v1, .bool nl, v2, v3]]) (congrArg (fun z => [some (Value.agg #[fv, .int .i64 1]), some (Value.int .i64 z), some (Value.agg #[.int .i64 N, v1, .bool nl, v2, v3])]) hvr) rfl
      ((write_any g32_nil unknown_all 4 wv (fun _ => False) fv F_BeginQuorumEpochRequest 1 ver [.int .i64 N, v1, .bool nl, v2, v3] (.mk N Sb nl Lt U) (hF.mono (fun _ _ h => h.elim)) (hT0.keep (keeps_below hb05 (Nat.le_refl _))) (by kernel_rfl) hok (by rw [← hbd, lim_eq]; omega)).mono ?_)
    rintro e w6 ⟨d6, rfl, ho6, hb6⟩
    rw [← hbd] at ho6
    have hb06 := hb05.trans (hb6.mono hb05.size)
    refine ⟨_, rfl, (hb6.block _ (lt_of_some hT5)).trans hT5, ?_⟩
    refine wd_assign rfl rfl rfl ?_
    refine wd_done ?_
    have hr6 : BytesRep0 w6 (fun _ => False) d6 b := (OwnC.of_own ho6).bytes (fun _ _ _ h => h)
    obtain ⟨A6, c6, rfl, _⟩ := hr6.form
    refine wk_seq ?_
    refine wk_reg (id := 7) ?_
    refine wk_move rfl rfl ?_
    refine wk_move rfl rfl ?_
    refine wk_call Tryz.call17 (vs := [.int .u8 a0, .int .i64 1]) rfl rfl ((c_version w6 a0 1 h0 h1 (by decide) (by decide)).mono ?_)
    rintro e wu ⟨rfl, rfl⟩
    refine ⟨_, rfl, ?_⟩
    refine wk_move rfl rfl ?_
    refine wk_call Tryz.call43 (vs := [.int .i64 (ver : Int), .slice A6 b.length c6]) (congrArg (fun z => [some (Value.int .i64 z), some (Value.slice A6 b.length c6)]) hvr) rfl
      ((c_Again_BeginQuorumEpochRequest hE hm V hcs hc0 wu (fun _ => False) (.slice A6 b.length c6) b hr6 hlb ((hb06.cell (p := ⟨1, 0, none⟩) hgl).trans hg)).mono ?_)
    rintro e w7 ⟨d7, ok7, rfl, hb7, hyes, _⟩
    refine ⟨_, rfl, ?_⟩
    obtain ⟨h7, ho7⟩ := hyes b hag
    subst h7
    have hb07 := hb06.trans (hb7.mono hb06.size)
    have hr67 := hr6.keep (keeps_below hb7 (Nat.le_refl _))
    have hr7 : BytesRep0 w7 (fun _ => False) d7 b := (OwnC.of_own ho7).bytes (fun _ _ _ h => h)
    refine wk_move rfl rfl ?_
    refine wk_extract rfl rfl rfl ?_
    refine wk_extract rfl rfl rfl ?_
    refine wk_assign rfl rfl ?_
    refine wk_assign rfl rfl ?_
    refine wk_nil ?_
    refine wk_seq ?_
    refine wk_reg (id := 8) ?_
    refine wk_move rfl rfl ?_
    refine wk_move rfl rfl ?_
    refine wk_gT rfl ?_; refine wk_move rfl rfl ?_
    refine wk_gT rfl ?_; refine wk_move rfl rfl ?_
    refine wk_gT rfl ?_
    refine wk_call Tryz.call19 (vs := [d7, .slice A6 b.length c6]) rfl rfl ((Same_any w7 (fun _ => False) (fun _ => False) d7 (.slice A6 b.length c6) b b hr7 hr67 (by rw [lim_eq]; omega) (by rw [lim_eq]; omega)).mono ?_)
    rintro e w8 ⟨rfl, hb8⟩
    refine ⟨_, rfl, ?_⟩
    refine wk_pick rfl rfl rfl rfl ?_
    refine wk_assign rfl rfl ?_
    refine wk_nil ?_
    exact wk_ret r0 rfl rfl ⟨by rw [beq_self_eq_true]; rfl, hb07.trans (hb8.mono hb07.size)⟩
open Go.ChangeShapes Go.WideShapes Go.ChangeAt in
theorem reads_FnAgainBeginQuorumEpochRequest (os : Os) {H : Type} (enc : TypeId × Value → H) : ∃ places, DataW.whole enc Tryz.prog ((laidWorld os).forCall (fun _ _ => 0) ⟨#[], #[.int .u8 0, .agg #[.int .i64 0, .slice none 0 0, .bool false, .slice none 0 0, .slice none 0 0]], []⟩).memory Tryz.f11.params.toList Rows.fnAgainBeginQuorumEpochRequestSpec.vars false #[.int .u8 0, .agg #[.int .i64 0, .slice none 0 0, .bool false, .slice none 0 0, .slice none 0 0]].toList 12 = some ([.lit (.int .u8 0), .agg [.lit (.int .i64 0), .nil, .lit (.bool false), .nil, .nil]], [], places) :=
  ⟨[], by kernel_rfl⟩
open Go.ChangeShapes Go.WideShapes Go.ChangeAt in
set_option maxRecDepth 100000 in
set_option linter.unusedVariables false in
theorem lifted_FnAgainBeginQuorumEpochRequest (os : Os) (started : os.Started) (H : Type) (enc : TypeId × Value → H) (F : Stop.Interp) :
    ReturnsInHanded {} Tryz.checked os 11 .any ((Rows.OpenSpec.upto Rows.fnAgainBeginQuorumEpochRequestSpec).preRow enc Tryz.prog Tryz.f11 Rows.fnAgainBeginQuorumEpochRequestUptoRow.domain false Rows.fnAgainBeginQuorumEpochRequestUptoRow.laid) (((Rows.OpenSpec.upto Rows.fnAgainBeginQuorumEpochRequestSpec).at F).post enc Tryz.prog Tryz.f11 false true false false) := by
  obtain ⟨places, hx⟩ := reads_FnAgainBeginQuorumEpochRequest os enc
  refine returnsInHanded_of_row (C := Tryz.checked) (s := Rows.OpenSpec.upto Rows.fnAgainBeginQuorumEpochRequestSpec) own started (by kernel_rfl) Tryz.func11
    (witness_row_at (enc := enc) (C := Tryz.checked) false (laidWorld os) #[.int .u8 0, .agg #[.int .i64 0, .slice none 0 0, .bool false, .slice none 0 0, .slice none 0 0]] rfl (by kernel_rfl) (by kernel_rfl) (by kernel_rfl)
      (OpenSpec.preRow_of_cond 12 hx (by kernel_rfl) (fun k hk => by cases hk; kernel_rfl) (by kernel_rfl) (laid_met os _))) ?_
  intro W base args ds gs before hval0 hW _ hcond hsz hL hsh _
  have hval : ∀ (j : Nat) t v, Tryz.f11.params[j]? = some t → args[j]? = some v → Value.okWide Tryz.prog W .any base t v := hval0
  have hW' := hW
  obtain ⟨p, q, hA0, hV, rfl, hfz, hnd⟩ := hW
  have hA : DataW.TrodAll enc Tryz.prog W 0 (fun _ => true) true Tryz.f11.params.toList args.toList ds p := hA0
  rw [Tryz.params11] at hA hval
  obtain ⟨E, hE, hg⟩ := sentinel hL
  obtain ⟨v0, vs0, d0, ds0, p0, q0, hargs, rfl, rfl, h0, r0⟩ := trodAll_cons hA
  obtain ⟨v1, vs1, d1, ds1, p1, q1, rfl, rfl, rfl, h1, r1⟩ := trodAll_cons r0
  obtain ⟨rfl, rfl, rfl⟩ := trodAll_nil r1
  obtain rfl : args = #[v0, v1] := by cases args; simp_all
  obtain ⟨rfl, rfl⟩ := trodVars_none hV
  obtain ⟨a0, rfl, rfl, rfl, w0⟩ := open_int Tryz.underlying5 (hval 0 5 v0 rfl rfl) h0
  obtain ⟨ct, rfl, _⟩ := okWide_struct Tryz.underlying26 (hval 1 26 v1 rfl rfl)
  obtain ⟨vs, rfl⟩ : ∃ l : List Value, ct = l.toArray := ⟨ct.toList, by simp⟩
  have hbk : Rows.uptoBulkAll _ ≤ 1048576 := of_decide_eq_true (hcond Rows.uptoSmall rfl)
  have hbk1 : Rows.uptoBulk d1 ≤ 1048576 := by
    simp only [List.cons_append, List.nil_append, Rows.uptoBulkAll] at hbk
    omega
  obtain ⟨fu, hfu⟩ := id h1
  obtain ⟨t, n, hT, hok, hB, hn⟩ := tree_in fu vs (d1, p1) hfu hbk1
  clear hA0 hval0
  simp only [List.append_nil] at hW'
  refine (walk_AgainBeginQuorumEpochRequest hE a0 w0 W vs t n hT hok hB (Nat.le_trans hn hbk1) hg).mono fun e W' ⟨he, hb⟩ => ?_
  subst he
  have hlt : ∀ x ∈ p1, x.block < W.heap.size := fun x hx => hW'.lt x (by simp [hx])
  exact ⟨_, rfl, post_of_below (pa := [] ++ (p1 ++ [])) (pv := []) hW' (fun _ _ _ => (trodAll_cons_mk (shut_bool Tryz.underlying4 _) trodAll_mk0))
    (fun sp hsp => (trodAll_cons_mk (shut_int Tryz.underlying5 w0) (trodAll_cons_mk (WideElems.Trod_stays P_laid (by kernel_rfl) (of_decide_eq_true (by kernel_rfl)) h1 (fun x hx => hb.same (hlt x hx)) (fun x hx => hsp x (by simp [hx]))) trodAll_mk0))) (fun _ _ => rfl) (by simp)
    hb (ok_one (by kernel_rfl) rfl (okWide_bool_mk Tryz.underlying4 _))⟩
theorem named_FnAgainBeginQuorumEpochRequest : Tryz.prog.funcNamed Rows.fnAgainBeginQuorumEpochRequestUptoRow.func = some 11 := by kernel_rfl
theorem inPlace_FnAgainBeginQuorumEpochRequest : (Rows.fnAgainBeginQuorumEpochRequestUptoRow.inPlace == Tryz.prog.inPlace 11) = true := by kernel_rfl
theorem unfollowed_FnAgainBeginQuorumEpochRequest : (Rows.fnAgainBeginQuorumEpochRequestUptoRow.unfollowed == Tryz.prog.unfollowed 11) = true := by kernel_rfl
theorem recurses_FnAgainBeginQuorumEpochRequest : (Rows.fnAgainBeginQuorumEpochRequestUptoRow.recurses == Tryz.prog.recurses 11) = true := by kernel_rfl
theorem vars_FnAgainBeginQuorumEpochRequest : (Rows.fnAgainBeginQuorumEpochRequestUptoRow.named == Tryz.prog.varsNamed 11) = true := by kernel_rfl
theorem joined_FnAgainBeginQuorumEpochRequest : joinedFacts Tryz.prog 11 Tryz.f11 (Rows.OpenSpec.upto Rows.fnAgainBeginQuorumEpochRequestSpec).bare Rows.fnAgainBeginQuorumEpochRequestUptoRow = true := by
  unfold joinedFacts
  iterate 4 refine and2 ?_ (by as_aux_lemma => kernel_rfl)
  refine and2 (and2 (and2 (and2 ?_ P_heard) P_enter) P_lifts) P_make
  refine and2 (and2 ?_ P_keys) (by as_aux_lemma => kernel_rfl)
  iterate 9 refine and2 ?_ (by as_aux_lemma => kernel_rfl)
  refine and2 (and2 (and2 (and2 ?_ inPlace_FnAgainBeginQuorumEpochRequest) unfollowed_FnAgainBeginQuorumEpochRequest) recurses_FnAgainBeginQuorumEpochRequest) vars_FnAgainBeginQuorumEpochRequest
  iterate 6 refine and2 ?_ (by as_aux_lemma => kernel_rfl)
  refine and2 (and2 ?_ P_laid) P_maps
  kernel_rfl
theorem said_FnAgainBeginQuorumEpochRequest : Rows.FnAgainBeginQuorumEpochRequestUptoSaid :=
  OpenClaim.holds_of_cond 11 Tryz.f11 rfl rfl rfl rfl rfl rfl rfl ⟨rfl, rfl, rfl, rfl, rfl⟩ rfl rfl rfl rfl rfl named_FnAgainBeginQuorumEpochRequest Tryz.func11 joined_FnAgainBeginQuorumEpochRequest
    (of_decide_eq_true (by as_aux_lemma => kernel_rfl)) (by unfold Func.isWrapper; first | (rw [if_pos (by decide +kernel)]; kernel_rfl) | (rw [if_neg (by decide +kernel)]; exact ⟨rfl, rfl⟩))
    (fun os started H enc _ F => by rw [OpenClaim.pre_eq_preRow]; exact lifted_FnAgainBeginQuorumEpochRequest os started H enc F)
theorem looks_FnAgainBeginQuorumEpochRequest : false = Tryz.pinned.checked.prog.looks [] := by kernel_rfl
theorem plain_FnAgainBeginQuorumEpochRequest (f : FuncId) (fn : Func) (hf : Tryz.pinned.checked.prog.funcNamed Rows.fnAgainBeginQuorumEpochRequestUptoRow.func = some f) (hfn : Tryz.pinned.checked.prog.funcs[f]? = some fn) :
    false = Tryz.pinned.checked.prog.looks [] ∧ ∀ (j : Nat) t, fn.params[j]? = some t → Tryz.pinned.checked.prog.wantsStandIn t = false := by
  obtain rfl : f = 11 := Option.some.inj (hf.symm.trans named_FnAgainBeginQuorumEpochRequest)
  obtain rfl : fn = Tryz.f11 := (Option.some.inj (Tryz.func11.symm.trans hfn)).symm
  refine ⟨looks_FnAgainBeginQuorumEpochRequest, fun j t ht => ?_⟩
  rw [Tryz.params11] at ht
  have h : t = 5 ∨ t = 26 := by simpa using Array.mem_of_getElem? ht
  rcases h with rfl | rfl
  · exact (show Tryz.prog.wantsStandIn 5 = false by kernel_rfl)
  · exact (show Tryz.prog.wantsStandIn 26 = false by kernel_rfl)
/-- The card. -/
theorem holds_FnAgainBeginQuorumEpochRequest : Rows.FnAgainBeginQuorumEpochRequestUptoCardSaid :=
  Claim7.holds_tied_plain_at .later [] _ _ _ _ said_FnAgainBeginQuorumEpochRequest (fun _ h => by cases h) (by kernel_rfl) (fun _ h => by cases h) fnAgainBeginQuorumEpochRequestUpto_row_tie rfl ⟨rfl, rfl⟩ (by kernel_rfl) rfl plain_FnAgainBeginQuorumEpochRequest (by kernel_rfl)
#print axioms holds_FnAgainBeginQuorumEpochRequest
end Go.Proofs.YtkakokckdlkbpaaGreatDoor
