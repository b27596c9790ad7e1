/-
  A new OffsetDeleteRequest is written, at every version, as the reference writes its defaults.
-/
import Derived.Test.YtfijlaopidgdpaaNewFacts
namespace Go.Proofs.Ytfijlaopidgdpaa
open Go Go.RowKit Go.Proofs.Eng
set_option maxRecDepth 20000
set_option maxHeartbeats 4000000

def F_sOffsetDeleteRequestTopicPartition : List Fld := [.mk 3 0 (-1) (-1) (-1) 0 0 []]
theorem c_sOffsetDeleteRequestTopicPartition (w : World) : Calls Try.prog 32 #[] w fun e w' => ∃ v, e = .returned v ∧ FRep w' (fun b => b < w.heap.size) v F_sOffsetDeleteRequestTopicPartition ∧ Below w.heap.size w w' := by
  refine calls_wk (args := []) Try.func32 rfl rfl ?_
  refine wk_seq ?_
  refine wk_reg (id := 0) ?_
  refine wk_assign rfl rfl ?_
  refine wk_nil ?_
  refine wk_seq ?_
  refine wk_reg (id := 1) ?_
  have hB0 := Below.refl w.heap.size w
  refine wk_build (vs := [(0, .int .i64 3), (2, .int .i64 (-1)), (3, .int .i64 (-1)), (4, .int .i64 (-1))]) (cells := #[.int .i64 3, .int .i64 0, .int .i64 (-1), .int .i64 (-1), .int .i64 (-1), .int .i64 0, .int .i64 0, .slice none 0 0]) rfl (by kernel_rfl) rfl ?_
  refine wk_buildS (e := 50) (vs := [(0, .agg #[.int .i64 3, .int .i64 0, .int .i64 (-1), .int .i64 (-1), .int .i64 (-1), .int .i64 0, .int .i64 0, .slice none 0 0])]) (cells := (fcells F_sOffsetDeleteRequestTopicPartition [.slice none 0 0]).toArray) (ie := Try.t50) (zv := .agg #[.int .i64 0, .int .i64 0, .int .i64 0, .int .i64 0, .int .i64 0, .int .i64 0, .int .i64 0, .slice none 0 0]) rfl Try.underlying23 (by kernel_rfl) rfl rfl rfl (by kernel_rfl) rfl ?_
  have hr := frep_build (fs := F_sOffsetDeleteRequestTopicPartition) (X := fun b => b < w.heap.size) (vs := [.slice none 0 0]) (Nat.not_lt.2 hB0.size) (heap_alloc_last w (.cells ((fcells F_sOffsetDeleteRequestTopicPartition [.slice none 0 0]).toArray) 50)) rfl rfl (And.intro .nil trivial)
  refine wk_assign rfl rfl ?_
  refine wk_nil ?_
  exact wk_ret r0 rfl rfl ⟨_, rfl, hr, hB0.trans ((below1 _ _).mono hB0.size)⟩
def F_sOffsetDeleteRequestTopic : List Fld := [.mk 8 0 (-1) (-1) (-1) 0 0 [], .mk 11 0 (-1) (-1) (-1) 0 10 F_sOffsetDeleteRequestTopicPartition]
theorem c_sOffsetDeleteRequestTopic (w : World) : Calls Try.prog 22 #[] w fun e w' => ∃ v, e = .returned v ∧ FRep w' (fun b => b < w.heap.size) v F_sOffsetDeleteRequestTopic ∧ Below w.heap.size w w' := by
  refine calls_wk (args := []) Try.func22 rfl rfl ?_
  refine wk_seq ?_
  refine wk_reg (id := 0) ?_
  refine wk_assign rfl rfl ?_
  refine wk_nil ?_
  refine wk_seq ?_
  refine wk_reg (id := 1) ?_
  have hB0 := Below.refl w.heap.size w
  refine wk_build (vs := [(0, .int .i64 8), (2, .int .i64 (-1)), (3, .int .i64 (-1)), (4, .int .i64 (-1))]) (cells := #[.int .i64 8, .int .i64 0, .int .i64 (-1), .int .i64 (-1), .int .i64 (-1), .int .i64 0, .int .i64 0, .slice none 0 0]) rfl (by kernel_rfl) rfl ?_
  refine wk_call Try.call32 (vs := []) rfl rfl ((c_sOffsetDeleteRequestTopicPartition _).mono ?_)
  rintro e w1 ⟨v1, rfl, hf1, hb1⟩
  refine ⟨_, rfl, ?_⟩
  obtain ⟨A1, c1, rfl⟩ := hf1.form
  have hB1 := hB0.trans (hb1.mono hB0.size)
  refine wk_build (vs := [(0, .int .i64 11), (2, .int .i64 (-1)), (3, .int .i64 (-1)), (4, .int .i64 (-1)), (6, .int .i64 10), (7, .slice A1 F_sOffsetDeleteRequestTopicPartition.length c1)]) (cells := #[.int .i64 11, .int .i64 0, .int .i64 (-1), .int .i64 (-1), .int .i64 (-1), .int .i64 0, .int .i64 10, .slice A1 F_sOffsetDeleteRequestTopicPartition.length c1]) rfl (by kernel_rfl) rfl ?_
  refine wk_buildS (e := 50) (vs := [(0, .agg #[.int .i64 8, .int .i64 0, .int .i64 (-1), .int .i64 (-1), .int .i64 (-1), .int .i64 0, .int .i64 0, .slice none 0 0]), (1, .agg #[.int .i64 11, .int .i64 0, .int .i64 (-1), .int .i64 (-1), .int .i64 (-1), .int .i64 0, .int .i64 10, .slice A1 F_sOffsetDeleteRequestTopicPartition.length c1])]) (cells := (fcells F_sOffsetDeleteRequestTopic [.slice none 0 0, .slice A1 F_sOffsetDeleteRequestTopicPartition.length c1]).toArray) (ie := Try.t50) (zv := .agg #[.int .i64 0, .int .i64 0, .int .i64 0, .int .i64 0, .int .i64 0, .int .i64 0, .int .i64 0, .slice none 0 0]) rfl Try.underlying23 (by kernel_rfl) rfl rfl rfl (by kernel_rfl) rfl ?_
  have hr := frep_build (fs := F_sOffsetDeleteRequestTopic) (X := fun b => b < w.heap.size) (vs := [.slice none 0 0, .slice A1 F_sOffsetDeleteRequestTopicPartition.length c1]) (Nat.not_lt.2 hB1.size) (heap_alloc_last w1 (.cells ((fcells F_sOffsetDeleteRequestTopic [.slice none 0 0, .slice A1 F_sOffsetDeleteRequestTopicPartition.length c1]).toArray) 50)) rfl rfl (And.intro .nil (And.intro ((hf1.mono (fun b _ h => Nat.lt_of_lt_of_le h (hB0.size))).keep (keeps_below (below1 _ _) (Nat.le_refl _))) trivial))
  refine wk_assign rfl rfl ?_
  refine wk_nil ?_
  exact wk_ret r0 rfl rfl ⟨_, rfl, hr, hB1.trans ((below1 _ _).mono hB1.size)⟩
def F_OffsetDeleteRequest : List Fld := [.mk 8 0 (-1) (-1) (-1) 0 0 [], .mk 11 0 (-1) (-1) (-1) 0 10 F_sOffsetDeleteRequestTopic]
theorem c_OffsetDeleteRequest (w : World) : Calls Try.prog 7 #[] w fun e w' => ∃ v, e = .returned (.agg #[v, .int .i64 (-1)]) ∧ FRep w' (fun b => b < w.heap.size) v F_OffsetDeleteRequest ∧ Below w.heap.size w w' := by
  refine calls_wk (args := []) Try.func7 rfl rfl ?_
  refine wk_seq ?_
  refine wk_reg (id := 0) ?_
  refine wk_alloc (t := 25) (i := Try.t25) (by kernel_rfl) rfl rfl ?_
  refine wk_nil ?_
  refine wk_seq ?_
  refine wk_reg (id := 1) ?_
  have hB0 : Below w.heap.size w (w.alloc (.cells (Value.agg #[.slice none 0 0, .int .i64 0]).cells 25)) := below1 _ _
  have hM0 : (w.alloc (.cells (Value.agg #[.slice none 0 0, .int .i64 0]).cells 25)).heap[w.heap.size]? = some (.cells #[.slice none 0 0, .int .i64 0] 25 (0, 0)) := heap_alloc_last _ _
  refine wk_build (vs := [(0, .int .i64 8), (2, .int .i64 (-1)), (3, .int .i64 (-1)), (4, .int .i64 (-1))]) (cells := #[.int .i64 8, .int .i64 0, .int .i64 (-1), .int .i64 (-1), .int .i64 (-1), .int .i64 0, .int .i64 0, .slice none 0 0]) rfl (by kernel_rfl) rfl ?_
  refine wk_call Try.call22 (vs := []) rfl rfl ((c_sOffsetDeleteRequestTopic _).mono ?_)
  rintro e w1 ⟨v1, rfl, hf1, hb1⟩
  refine ⟨_, rfl, ?_⟩
  obtain ⟨A1, c1, rfl⟩ := hf1.form
  have hB1 := hB0.trans (hb1.mono hB0.size)
  have hM1 := (hb1.block _ (lt_of_some hM0)).trans hM0
  refine wk_build (vs := [(0, .int .i64 11), (2, .int .i64 (-1)), (3, .int .i64 (-1)), (4, .int .i64 (-1)), (6, .int .i64 10), (7, .slice A1 F_sOffsetDeleteRequestTopic.length c1)]) (cells := #[.int .i64 11, .int .i64 0, .int .i64 (-1), .int .i64 (-1), .int .i64 (-1), .int .i64 0, .int .i64 10, .slice A1 F_sOffsetDeleteRequestTopic.length c1]) rfl (by kernel_rfl) rfl ?_
  refine wk_buildS (e := 50) (vs := [(0, .agg #[.int .i64 8, .int .i64 0, .int .i64 (-1), .int .i64 (-1), .int .i64 (-1), .int .i64 0, .int .i64 0, .slice none 0 0]), (1, .agg #[.int .i64 11, .int .i64 0, .int .i64 (-1), .int .i64 (-1), .int .i64 (-1), .int .i64 0, .int .i64 10, .slice A1 F_sOffsetDeleteRequestTopic.length c1])]) (cells := (fcells F_OffsetDeleteRequest [.slice none 0 0, .slice A1 F_sOffsetDeleteRequestTopic.length c1]).toArray) (ie := Try.t50) (zv := .agg #[.int .i64 0, .int .i64 0, .int .i64 0, .int .i64 0, .int .i64 0, .int .i64 0, .int .i64 0, .slice none 0 0]) rfl Try.underlying23 (by kernel_rfl) rfl rfl rfl (by kernel_rfl) rfl ?_
  refine wk_build (vs := [(1, .int .i64 (-1)), (0, .slice (some ⟨w1.heap.size, 0, none⟩) 2 2)]) (cells := #[.slice (some ⟨w1.heap.size, 0, none⟩) 2 2, .int .i64 (-1)]) rfl (by kernel_rfl) rfl ?_
  have hMS := ((below1 w1 (.cells ((fcells F_OffsetDeleteRequest [.slice none 0 0, .slice A1 F_sOffsetDeleteRequestTopic.length c1]).toArray) 50)).block _ (lt_of_some hM1)).trans hM1
  have hr := frep_build (fs := F_OffsetDeleteRequest) (X := fun b => b < w.heap.size + 1) (vs := [.slice none 0 0, .slice A1 F_sOffsetDeleteRequestTopic.length c1]) (Nat.not_lt.2 (lt_of_some hM1)) (heap_alloc_last w1 (.cells ((fcells F_OffsetDeleteRequest [.slice none 0 0, .slice A1 F_sOffsetDeleteRequestTopic.length c1]).toArray) 50)) rfl rfl (And.intro .nil (And.intro ((hf1.mono (fun b _ h => Nat.lt_of_lt_of_le h (lt_of_some hM0))).keep (keeps_below (below1 _ _) (Nat.le_refl _))) trivial))
  refine wk_storeRow (i := Try.t25) (cs := #[.slice (some ⟨w1.heap.size, 0, none⟩) 2 2, .int .i64 (-1)]) rfl rfl hMS (by kernel_rfl) rfl rfl (one2 rfl rfl) ?_
  refine wk_nil ?_
  refine wk_retc r0 rfl rfl (loadVar_cells (vs := [.slice (some ⟨w1.heap.size, 0, none⟩) 2 2, .int .i64 (-1)]) Try.underlying25 rfl (show Try.prog.info? 25 = some Try.t25 by kernel_rfl) rfl (cells_blk (setRow_heap _ _ _ _ _ _ hMS))) ⟨_, rfl, ?_, ?_⟩
  · exact (hr.keep (keeps_setRow (X := fun b => b < w.heap.size + 1) (b := w.heap.size) _ (Nat.lt_succ_self w.heap.size) _)).mono (fun b _ h => Nat.lt_succ_of_lt h)
  · exact below_setRow (hB1.trans ((below1 _ _).mono hB1.size)) (Nat.le_refl _) _
/-! ## the message -/
theorem c_Default_OffsetDeleteRequest (w : World) (b : Nat) (h0 : w.heap[b]? = some (.cells #[.int .i16 0, .string ByteArray.empty, .slice none 0 0] 61 (0, 0))) : Calls Try.prog 31 #[.pointer (some ⟨b, 0, none⟩)] w fun e w' => e = .returned (.tuple #[]) ∧ w'.heap[b]? = some (.cells #[.int .i16 0, .string ByteArray.empty, .slice none 0 0] 61 (0, 0)) ∧ Below b w w' := by
  refine calls_wk (args := [.pointer (some ⟨b, 0, none⟩)]) Try.func31 rfl rfl ?_
  have hb0 := Below.refl b w
  refine wk_skip ?_
  exact wk_end0 (fun _ _ h => h) rfl ⟨rfl, h0, hb0⟩
theorem c_NewPtr_OffsetDeleteRequest (w : World) : Calls Try.prog 20 #[] w fun e w' => e = .returned (.pointer (some ⟨w.heap.size, 0, none⟩)) ∧ w'.heap[w.heap.size]? = some (.cells #[.int .i16 0, .string ByteArray.empty, .slice none 0 0] 61 (0, 0)) ∧ Below w.heap.size w w' := by
  refine calls_wk (args := []) Try.func20 rfl rfl ?_
  refine wk_seq ?_
  refine wk_reg (id := 0) ?_
  refine wk_assign rfl rfl ?_
  refine wk_nil ?_
  refine wk_seq ?_
  refine wk_reg (id := 1) ?_
  refine wk_alloc (t := 61) (i := Try.t61) (by kernel_rfl) rfl rfl ?_
  refine wk_nil ?_
  refine wk_seq ?_
  refine wk_reg (id := 2) ?_
  refine wk_call Try.call31 (vs := [.pointer (some ⟨w.heap.size, 0, none⟩)]) rfl rfl ((c_Default_OffsetDeleteRequest _ _ (heap_alloc_last _ _)).mono ?_)
  rintro e w1 ⟨rfl, h1, hb1⟩
  refine ⟨_, rfl, ?_⟩
  refine wk_nil ?_
  refine wk_seq ?_
  refine wk_reg (id := 3) ?_
  refine wk_assign rfl rfl ?_
  refine wk_nil ?_
  exact wk_ret r0 rfl rfl ⟨rfl, h1, (below1 _ _).trans hb1⟩
theorem c_MaxV_OffsetDeleteRequest (w : World) (p : Value) : Calls Try.prog 21 #[p] w fun e w' => e = .returned (.int .i16 0) ∧ w' = w := by
  refine calls_wk (args := [p]) Try.func21 rfl rfl ?_
  refine wk_seq ?_
  refine wk_reg (id := 0) ?_
  refine wk_assign rfl rfl ?_
  refine wk_nil ?_
  refine wk_seq ?_
  refine wk_reg (id := 1) ?_
  refine wk_assign rfl rfl ?_
  refine wk_nil ?_
  exact wk_ret r0 rfl rfl ⟨rfl, rfl⟩
theorem c_Max_OffsetDeleteRequest (w : World) : Calls Try.prog 6 #[] w fun e w' => e = .returned (.int .i64 0) ∧ Below w.heap.size w w' := by
  refine calls_wk (args := []) Try.func6 rfl rfl ?_
  refine wk_seq ?_
  refine wk_reg (id := 0) ?_
  refine wk_assign rfl rfl ?_
  refine wk_nil ?_
  refine wk_seq ?_
  refine wk_reg (id := 1) ?_
  refine wk_call Try.call20 (vs := []) rfl rfl ((c_NewPtr_OffsetDeleteRequest w).mono ?_)
  rintro e w1 ⟨rfl, _, hb1⟩
  refine ⟨_, rfl, ?_⟩
  skip
  refine wk_call Try.call21 (vs := [.pointer (some ⟨w.heap.size, 0, none⟩)]) rfl rfl ((c_MaxV_OffsetDeleteRequest w1 _).mono ?_)
  rintro e w2 ⟨rfl, rfl⟩
  refine ⟨_, rfl, ?_⟩
  refine wk_conv rfl Try.underlying45 Try.underlying3 rfl ?_
  refine wk_assign rfl rfl ?_
  refine wk_nil ?_
  exact wk_ret r0 rfl rfl ⟨rfl, hb1⟩
theorem c_SetV_OffsetDeleteRequest (w : World) (b : Nat) (n : Int) (h0 : w.heap[b]? = some (.cells #[.int .i16 0, .string ByteArray.empty, .slice none 0 0] 61 (0, 0))) : Calls Try.prog 23 #[.pointer (some ⟨b, 0, none⟩), .int .i16 n] w fun e w' => e = .returned (.tuple #[]) ∧ w'.heap[b]? = some (.cells #[.int .i16 n, .string ByteArray.empty, .slice none 0 0] 61 (0, 0)) ∧ Below b w w' := by
  refine calls_wk (args := [.pointer (some ⟨b, 0, none⟩), .int .i16 n]) Try.func23 rfl rfl ?_
  refine wk_reg (id := 0) ?_
  refine wk_move rfl rfl ?_
  refine wk_move rfl rfl ?_
  refine wk_nilCheck rfl rfl ?_
  refine wk_field (f := 0) (i := Try.t45) rfl Try.underlying61 rfl (by kernel_rfl) (by decide) rfl ?_
  refine wk_store1 (i := Try.t45) rfl rfl h0 (by kernel_rfl) rfl rfl rfl (show 0 < 3 by decide) ?_
  refine wk_nil ?_
  exact wk_end0 (fun _ _ h => h) rfl ⟨rfl, setRow_heap _ _ _ (#[.int .i16 0, .string ByteArray.empty, .slice none 0 0].setIfInBounds 0 (.int .i16 n)) _ _ h0, below_setRow (Below.refl b w) (Nat.le_refl b) _⟩
theorem new_ok_OffsetDeleteRequest (ver : Nat) (h : ver ≤ 0) : newB nT [some (.int .i16 (ver : Int)), none, some (.slice none 0 0)] Try.f24 4000 4 [.int .i16, .str, .arr [.str, .arr [.int .i32]]] [.int .i16 (ver : Int), .string ByteArray.empty, .slice none 0 0] (sWrite 4 F_OffsetDeleteRequest (-1) (ver : Int) (sDefault 4 F_OffsetDeleteRequest)) = true ∧ Nat.ble (sWrite 4 F_OffsetDeleteRequest (-1) (ver : Int) (sDefault 4 F_OffsetDeleteRequest)).length 1099511627776 = true := by
  have h : ver = 0 := by omega
  subst h
  exact ⟨by kernel_rfl, by kernel_rfl⟩
theorem c_New_OffsetDeleteRequest (w : World) (ver : Nat) (hv : ver ≤ 0) : Calls Try.prog 9 #[.int .i64 (ver : Int)] w fun e w' => ∃ d', e = .returned d' ∧ Own w' w.heap.size 5 d' (sWrite 4 F_OffsetDeleteRequest (-1) (ver : Int) (sDefault 4 F_OffsetDeleteRequest)) ∧ Below w.heap.size w w' := by
  have hw : IntKind.i16.wrap (ver : Int) = ver := i16w _ (by omega) (by omega)
  refine calls_wk (args := [.int .i64 (ver : Int)]) Try.func9 rfl rfl ?_
  refine wk_seq ?_
  refine wk_reg (id := 0) ?_
  refine wk_assign rfl rfl ?_
  refine wk_nil ?_
  refine wk_seq ?_
  refine wk_reg (id := 1) ?_
  refine wk_call Try.call20 (vs := []) rfl rfl ((c_NewPtr_OffsetDeleteRequest w).mono ?_)
  rintro e w1 ⟨rfl, h1, hb1⟩
  refine ⟨_, rfl, ?_⟩
  refine wk_assign rfl rfl ?_
  refine wk_nil ?_
  refine wk_seq ?_
  refine wk_reg (id := 2) ?_
  refine wk_move rfl rfl ?_
  refine wk_move rfl rfl ?_
  refine wk_conv rfl Try.underlying3 Try.underlying45 rfl ?_
  refine wk_call Try.call23 (vs := [.pointer (some ⟨w.heap.size, 0, none⟩), .int .i16 (ver : Int)]) (congrArg (fun z => [some (Value.pointer (some ⟨w.heap.size, 0, none⟩)), some (Value.int .i16 z)]) hw) rfl ((c_SetV_OffsetDeleteRequest w1 w.heap.size ver h1).mono ?_)
  rintro e w2 ⟨rfl, h2, hb2⟩
  refine ⟨_, rfl, ?_⟩
  refine wk_nil ?_
  refine wk_seq ?_
  refine wk_reg (id := 3) ?_
  refine wk_move rfl rfl ?_
  have hn := new_ok_OffsetDeleteRequest ver hv
  refine wk_call Try.call24 (vs := [.pointer (some ⟨w.heap.size, 0, none⟩), .slice none 0 0]) rfl rfl (((calls_new nTabOK nConts Try.func24 rfl rfl hn.1 (by simp [knB, ikeq]) h2 (Nat.le_of_ble_eq_true hn.2))).mono ?_)
  rintro e w3 ⟨d3, rfl, ho3, hb3⟩
  refine ⟨_, rfl, ?_⟩
  refine wk_assign rfl rfl ?_
  refine wk_nil ?_
  have hb12 := hb1.trans hb2
  exact wk_ret r0 rfl rfl ⟨d3, rfl, own_mono ho3 hb12.size, hb12.trans (hb3.mono hb12.size)⟩
/-! ## the law -/
theorem walk_OffsetDeleteRequest (a0 : Int) (w0 : (Lit.int .u8 a0).wf = true) (w : World) : Calls Try.prog 3 #[.int .u8 a0] w fun e w' => e = .returned (.bool true) ∧ Below w.heap.size w w' := by
  obtain ⟨h0, h1⟩ := bounds_u8 w0
  obtain ⟨ver, hv, hm⟩ := ver_of a0 0 h0
  have cm : cmp .lss 0 0 = some false := rfl
  refine calls_wk (args := [.int .u8 a0]) Try.func3 rfl rfl ?_
  refine wk_seq ?_
  refine wk_reg (id := 0) ?_
  refine wk_assign rfl rfl ?_
  refine wk_nil ?_
  refine wk_seq ?_
  refine wk_reg (id := 1) ?_
  refine wk_call Try.call6 (vs := []) rfl rfl ((c_Max_OffsetDeleteRequest w).mono ?_)
  rintro e w1 ⟨rfl, hb1⟩
  refine ⟨_, rfl, ?_⟩
  refine wk_assign rfl rfl ?_
  refine wk_nil ?_
  refine wk_seq ?_
  refine wk_seq ?_
  refine wk_reg (id := 2) ?_
  refine wk_move rfl rfl ?_
  refine wk_cmp rfl rfl (by with_reducible assumption) rfl ?_
  refine wk_nil ?_
  refine wk_condF rfl ?_
  refine wk_skip ?_
  refine wk_seq ?_
  refine wk_reg (id := 4) ?_
  refine wk_call Try.call7 (vs := []) rfl rfl ((c_OffsetDeleteRequest w1).mono ?_)
  rintro e w2 ⟨v, rfl, hF, hb2⟩
  refine ⟨_, rfl, ?_⟩
  refine wk_alloc (t := 25) (i := Try.t25) (by kernel_rfl) rfl rfl ?_
  refine wk_storeNew (i := Try.t25) rfl rfl (by kernel_rfl) rfl rfl (one2 hF.one rfl) ?_
  have hM := heap_alloc_last w2 (.cells #[v, .int .i64 (-1)] 25)
  have hbA := below1 w2 (.cells #[v, .int .i64 (-1)] 25)
  have hb02 := hb1.trans (hb2.mono hb1.size)
  refine wk_nil ?_
  refine wk_seq ?_
  refine wk_draw (fun w' => w'.heap[w2.heap.size]? = some (.cells #[v, .int .i64 (-1)] 25 (0, 0))) [(0, true), (1, true), (4, true), (5, true), (6, true), (8, true), (9, true), (2, false), (3, false), (7, false), (10, false), (11, false), (12, false), (13, true)] mixed pq0 (by kernel_rfl) (by kernel_rfl) (by kernel_rfl) (fun w5 h5 _ => by rw [h5]; exact hM) ?_
  intro w3 h3 hb3
  have hM3 : w3.heap[w2.heap.size]? = some (.cells #[v, .int .i64 (-1)] 25 (0, 0)) := by rw [h3]; exact hM
  have hb23 := hbA.trans (hb3.mono hbA.size)
  have hF3 := hF.keep (keeps_below hb23 (Nat.le_refl _))
  have hb03 := hb02.trans (hb23.mono hb02.size)
  refine wd_move rfl rfl rfl ?_
  refine wd_move rfl rfl rfl ?_
  refine wd_loadA (ti := Try.t25) rfl rfl Try.underlying25 rfl (by kernel_rfl) (vs := [v, .int .i64 (-1)]) rfl (fun w' hS => cells_blk hS) rfl ?_
  refine wd_move rfl rfl rfl ?_
  refine wd_move rfl rfl rfl ?_
  refine wd_field (f := 0) (ti := Try.t23) rfl rfl Try.underlying25 rfl (by kernel_rfl) (by decide) rfl ?_
  refine wd_load (v := v) rfl rfl Try.underlying23 rfl (fun w' hS => cell_blk hS rfl) rfl ?_
  refine wd_call rfl Try.call10 (vs := [.int .u8 a0, .int .i64 0]) rfl rfl ((c_version w3 a0 0 h0 h1 (by decide) (by decide)).mono ?_)
  rintro e wv ⟨rfl, rfl⟩
  refine ⟨_, rfl, hM3, ?_⟩
  refine wd_call rfl Try.call9 (vs := [.int .i64 (ver : Int)]) (congrArg (fun z => [some (Value.int .i64 z)]) hv) rfl ((c_New_OffsetDeleteRequest wv ver hm).mono ?_)
  rintro e w4 ⟨d4, rfl, ho4, hb4⟩
  have hM4 := (hb4.block _ (lt_of_some hM3)).trans hM3
  have hF4 := hF3.keep (keeps_below hb4 (Nat.le_refl _))
  have hb04 := hb03.trans (hb4.mono hb03.size)
  refine ⟨_, rfl, hM4, ?_⟩
  refine wd_call rfl Try.call10 (vs := [.int .u8 a0, .int .i64 0]) rfl rfl ((c_version w4 a0 0 h0 h1 (by decide) (by decide)).mono ?_)
  rintro e wv ⟨rfl, rfl⟩
  refine ⟨_, rfl, hM4, ?_⟩
  refine wd_call rfl Try.call12 (vs := [v]) rfl rfl ((default_all 4 _ _ v F_OffsetDeleteRequest hF4 (by kernel_rfl) (by kernel_rfl)).mono ?_)
  rintro e w5 ⟨vs, rfl, hT5, hb5⟩
  have hM5 := (hb5.block _ (lt_of_some hM4)).trans hM4
  have hF5 := hF4.keep (keeps_below hb5 (Nat.le_refl _))
  have hb05 := hb04.trans (hb5.mono hb04.size)
  have ho5 := ho4.below hb5
  refine ⟨_, rfl, hM5, ?_⟩
  have hlen := Nat.le_of_ble_eq_true (new_ok_OffsetDeleteRequest ver hm).2
  refine wd_call rfl Try.call11 (vs := [.agg #[v, .int .i64 (-1)], .int .i64 (ver : Int), .agg vs.toArray]) (congrArg (fun z => [some (Value.agg #[v, .int .i64 (-1)]), some (Value.int .i64 z), some (Value.agg vs.toArray)]) hv) rfl
    ((write_any (G := fun l => l = []) rfl unknown_none 4 _ (fun _ => False) v F_OffsetDeleteRequest (-1) ver vs (sDefault 4 F_OffsetDeleteRequest) (hF5.mono (fun _ _ h => h.elim)) (hT5.mono (fun _ _ h => h.elim)) (by kernel_rfl) (tok_default 4 F_OffsetDeleteRequest (by kernel_rfl)).1 hlen).mono ?_)
  rintro e w6 ⟨d6, rfl, ho6, hb6⟩
  have hM6 := (hb6.block _ (lt_of_some hM5)).trans hM5
  have hb06 := hb05.trans (hb6.mono hb05.size)
  have ho56 := ho5.below hb6
  refine ⟨_, rfl, hM6, ?_⟩
  refine wd_call rfl Try.call8 (vs := [d4, d6]) rfl rfl ((Same_any w6 (fun _ => False) (fun _ => False) d4 d6 _ _ ((OwnC.of_own ho56).bytes (fun _ _ _ h => h)) ((OwnC.of_own ho6).bytes (fun _ _ _ h => h)) hlen hlen).mono ?_)
  rintro e w7 ⟨rfl, hb7⟩
  refine ⟨_, rfl, (hb7.block _ (lt_of_some hM6)).trans hM6, ?_⟩
  refine wd_assign rfl rfl rfl ?_
  refine wd_done ?_
  skip
  exact wk_ret r0 rfl rfl ⟨by rw [beq_self_eq_true], hb06.trans (hb7.mono hb06.size)⟩
open Go.ChangeShapes Go.WideShapes Go.ChangeAt in
set_option maxRecDepth 100000 in
set_option linter.unusedVariables false in
theorem lifted_OffsetDeleteRequest (os : Os) (started : os.Started) (H : Type) (enc : TypeId × Value → H) :
    ReturnsInHanded {} Try.checked os 3 .any (Rows.fnNewOffsetDeleteRequestSpec.pre6 enc Try.prog Try.f3 Rows.fnNewOffsetDeleteRequestRow.domain false) (Rows.fnNewOffsetDeleteRequestSpec.post enc Try.prog Try.f3 false true false false) := by
  refine returnsInHanded_of_change (C := Try.checked) (by kernel_rfl) started (by kernel_rfl) Try.func3
    (ChangeSpec.witness6 (enc := enc) (C := Try.checked) false ⟨#[], #[.int .u8 0], []⟩ 8 (by kernel_rfl) (by kernel_rfl) (by kernel_rfl) (by kernel_rfl)) ?_
  intro W base args ds gs before hval0 hW hcnd _
  have hval : ∀ (j : Nat) t v, Try.f3.params[j]? = some t → args[j]? = some v → Value.okWide Try.prog W .any base t v := hval0
  have hW' := hW
  obtain ⟨p, q, hA0, hV, rfl, hfz, hnd⟩ := hW
  have hA : DataW.TrodAll enc Try.prog W 0 (fun _ => true) true Try.f3.params.toList args.toList ds p := hA0
  rw [Try.params3] at hA hval
  obtain ⟨v0, vs0, d0, ds0, p0, q0, hargs, rfl, rfl, h0, r0⟩ := trodAll_cons hA
  obtain ⟨rfl, rfl, rfl⟩ := trodAll_nil r0
  obtain rfl : args = #[v0] := by cases args; simp_all
  obtain ⟨rfl, rfl⟩ := trodVars_none hV
  obtain ⟨a0, rfl, rfl, rfl, w0⟩ := open_int Try.underlying5 (hval 0 5 v0 rfl rfl) h0
  clear hA0 hval0
  simp only [List.append_nil] at hW'
  refine (walk_OffsetDeleteRequest a0 w0 W).mono fun e W' ⟨he, hg⟩ => ?_
  subst he
  exact ⟨_, rfl, post_of_below (pa := []) (pv := []) hW' (fun _ _ _ => (trodAll_cons_mk (shut_bool Try.underlying4 _) trodAll_mk0)) (fun sp _ => (trodAll_cons_mk (shut_int Try.underlying5 w0) trodAll_mk0)) (fun _ _ => rfl) rfl
    hg (ok_one (by kernel_rfl) rfl (okWide_bool_mk Try.underlying4 _))⟩
theorem named_OffsetDeleteRequest : Try.prog.funcNamed Rows.fnNewOffsetDeleteRequestRow.func = some 3 := by kernel_rfl
theorem inPlace_OffsetDeleteRequest : (Rows.fnNewOffsetDeleteRequestRow.inPlace == Try.prog.inPlace 3) = true := by kernel_rfl
theorem unfollowed_OffsetDeleteRequest : (Rows.fnNewOffsetDeleteRequestRow.unfollowed == Try.prog.unfollowed 3) = true := by kernel_rfl
theorem recurses_OffsetDeleteRequest : (Rows.fnNewOffsetDeleteRequestRow.recurses == Try.prog.recurses 3) = true := by kernel_rfl
theorem vars_OffsetDeleteRequest : (Rows.fnNewOffsetDeleteRequestRow.named == Try.prog.varsNamed 3) = true := by kernel_rfl
theorem joined_OffsetDeleteRequest : joinedFacts Try.prog 3 Try.f3 Rows.fnNewOffsetDeleteRequestSpec Rows.fnNewOffsetDeleteRequestRow = true := by
  unfold joinedFacts
  iterate 4 refine and2 ?_ (by as_aux_lemma => kernel_rfl)
  refine and2 (and2 (and2 (and2 ?_ P_heard) P_enter) P_lifts) P_make
  refine and2 (and2 ?_ P_keys) (by as_aux_lemma => kernel_rfl)
  iterate 9 refine and2 ?_ (by as_aux_lemma => kernel_rfl)
  refine and2 (and2 (and2 (and2 ?_ inPlace_OffsetDeleteRequest) unfollowed_OffsetDeleteRequest) recurses_OffsetDeleteRequest) vars_OffsetDeleteRequest
  iterate 6 refine and2 ?_ (by as_aux_lemma => kernel_rfl)
  refine and2 (and2 ?_ P_laid) P_maps
  kernel_rfl
theorem holds_OffsetDeleteRequest : Rows.FnNewOffsetDeleteRequestSaid :=
  OpenClaim.holds_of_wide 3 Try.f3 rfl rfl rfl rfl rfl rfl rfl ⟨rfl, rfl, rfl, rfl, rfl⟩ rfl rfl rfl rfl rfl named_OffsetDeleteRequest Try.func3 joined_OffsetDeleteRequest
    (of_decide_eq_true (by as_aux_lemma => kernel_rfl)) (by unfold Func.isWrapper; first | (rw [if_pos (by decide +kernel)]; kernel_rfl) | (rw [if_neg (by decide +kernel)]; exact ⟨rfl, rfl⟩))
    (fun os started H enc _ => lifted_OffsetDeleteRequest os started H enc)
#print axioms holds_OffsetDeleteRequest
end Go.Proofs.Ytfijlaopidgdpaa
