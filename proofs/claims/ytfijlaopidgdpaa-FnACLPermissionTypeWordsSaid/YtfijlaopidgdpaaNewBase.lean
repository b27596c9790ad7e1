/-
  The table of the executor over this program, and that it fits; the version that a law takes.
-/
import Derived.Test.YtfijlaopidgdpaaSpec9
import Derived.Test.YtfijlaopidgdpaaTags0
import Derived.Test.YtfijlaopidgdpaaEngG
namespace Go.Proofs.Ytfijlaopidgdpaa
open Go Go.RowKit Go.Proofs.Eng
set_option maxRecDepth 20000
set_option maxHeartbeats 4000000

def nT : Tab :=
  ⟨[(7, [0, 1, 2, 3]), (8, [0, 1, 2, 3]), (13, [0, 1]), (14, [0, 1]), (18, [0]), (19, [0]), (24, [0, 1]), (25, [0, 1]), (34, [0, 1, 2, 3, 4]), (35, [0, 1, 2, 3, 4]), (49, [0, 1, 2, 3, 4, 5, 6, 7]), (50, [0, 1, 2, 3, 4, 5, 6, 7]), (57, [0, 1]), (58, [0, 1]), (60, [0, 1, 2]), (61, [0, 1, 2]), (66, [0, 1]), (67, [0, 1]), (69, [0]), (70, [0]), (81, [0, 1]), (82, [0, 1]), (84, [0]), (85, [0]), (86, [0, 1, 2, 3]), (87, [0, 1, 2, 3]), (109, [0, 1, 2]), (110, [0, 1, 2]), (116, [0, 1]), (117, [0, 1]), (118, [0]), (119, [0]), (140, [0, 1, 2, 3]), (141, [0, 1, 2, 3]), (151, [0, 1, 2, 3, 4, 5, 6, 7, 8, 9, 10]), (152, [0, 1, 2, 3, 4, 5, 6, 7, 8, 9, 10]), (154, [0, 1]), (155, [0, 1])],
  [(1, (1, false)), (2, (1, false)), (3, (1, false)), (4, (1, false)), (5, (1, false)), (6, (1, false)), (7, (4, true)), (8, (4, true)), (9, (1, false)), (10, (1, false)), (11, (1, false)), (12, (1, false)), (13, (2, true)), (14, (2, true)), (15, (1, false)), (16, (1, false)), (17, (1, false)), (18, (1, true)), (19, (1, true)), (20, (1, false)), (21, (1, false)), (22, (1, false)), (23, (1, false)), (24, (2, true)), (25, (2, true)), (26, (1, false)), (27, (1, false)), (28, (1, false)), (29, (1, false)), (30, (1, false)), (31, (1, false)), (32, (1, false)), (33, (1, false)), (34, (5, true)), (35, (5, true)), (36, (1, false)), (37, (1, false)), (38, (1, false)), (39, (1, false)), (40, (1, false)), (41, (1, false)), (42, (1, false)), (43, (1, false)), (44, (1, false)), (45, (1, false)), (46, (1, false)), (47, (1, false)), (48, (1, false)), (49, (8, true)), (50, (8, true)), (51, (1, false)), (52, (1, false)), (53, (1, false)), (54, (1, false)), (55, (1, false)), (56, (1, false)), (57, (2, true)), (58, (2, true)), (59, (1, false)), (60, (3, true)), (61, (3, true)), (62, (1, false)), (63, (1, false)), (64, (1, false)), (65, (1, false)), (66, (2, true)), (67, (2, true)), (68, (1, false)), (69, (1, true)), (70, (1, true)), (71, (1, false)), (72, (1, false)), (73, (1, false)), (74, (1, false)), (75, (1, false)), (76, (1, false)), (77, (1, false)), (78, (1, false)), (79, (1, false)), (80, (1, false)), (81, (2, true)), (82, (2, true)), (83, (1, false)), (84, (1, true)), (85, (1, true)), (86, (4, true)), (87, (4, true)), (88, (1, false)), (89, (1, false)), (90, (1, false)), (91, (1, false)), (92, (1, false)), (93, (1, false)), (94, (1, false)), (95, (1, false)), (96, (1, false)), (97, (1, false)), (98, (1, false)), (99, (1, false)), (100, (1, false)), (101, (1, false)), (102, (1, false)), (103, (1, false)), (104, (1, false)), (105, (1, false)), (106, (1, false)), (107, (1, false)), (108, (1, false)), (109, (3, true)), (110, (3, true)), (111, (1, false)), (112, (1, false)), (113, (1, false)), (114, (1, false)), (115, (1, false)), (116, (2, true)), (117, (2, true)), (118, (1, true)), (119, (1, true)), (120, (1, false)), (121, (1, false)), (122, (1, false)), (123, (1, false)), (125, (1, false)), (126, (1, false)), (127, (1, false)), (129, (1, false)), (130, (1, false)), (131, (1, false)), (132, (1, false)), (133, (1, false)), (134, (1, false)), (135, (1, false)), (136, (1, false)), (138, (1, false)), (139, (1, false)), (140, (4, true)), (141, (4, true)), (142, (0, true)), (143, (0, true)), (144, (0, true)), (145, (1, false)), (146, (1, false)), (147, (1, false)), (148, (1, false)), (149, (1, false)), (150, (1, false)), (151, (11, true)), (152, (11, true)), (153, (1, false)), (154, (2, true)), (155, (2, true))],
  [(23, 8), (28, 1), (32, 5), (33, 2), (39, 1), (42, 2), (59, 2), (65, 1), (104, 1)],
  [], [(2, .i64), (3, .i64), (5, .u8), (6, .u8), (12, .u64), (21, .i32), (45, .i16), (75, .u32), (79, .u64), (97, .u64), (99, .u16), (108, .u64), (123, .i64), (130, .u64), (145, .u8), (146, .u8), (149, .i32), (150, .i32)], [],
  [(47, .i16), (60, .u16), (35, .i32), (33, .str), (59, .byt), (58, .cbyt), (46, .nbyt), (45, .cnbyt)], [(34, .al)], 48, 49, 50, 5, true⟩
theorem nTabOK : TabOK Try.prog nT := tabB_ok (by kernel_rfl)
theorem nConts : Conts Try.prog nT := by
  refine ⟨?_, ?_, ⟨AppendUvarint_any, Try.call48⟩, ⟨c_TagsLen, Try.call49⟩, ⟨c_AppendEach0, Try.call50⟩⟩
  · intro f p h
    simp only [nT, List.mem_cons, Prod.mk.injEq, List.not_mem_nil, or_false] at h
    rcases h with ⟨rfl, rfl⟩ | ⟨rfl, rfl⟩ | ⟨rfl, rfl⟩ | ⟨rfl, rfl⟩ | ⟨rfl, rfl⟩ | ⟨rfl, rfl⟩ | ⟨rfl, rfl⟩ | ⟨rfl, rfl⟩
    · exact ⟨c_AppendInt16, Try.call47⟩
    · exact ⟨c_AppendUint16, Try.call60⟩
    · exact ⟨c_AppendInt32, Try.call35⟩
    · exact ⟨c_AppendString, Try.call33⟩
    · exact ⟨c_AppendBytes, Try.call59⟩
    · exact ⟨c_AppendCompactBytes, Try.call58⟩
    · exact ⟨c_AppendNullableBytes, Try.call46⟩
    · exact ⟨c_AppendCompactNullableBytes, Try.call45⟩
  · intro f p h
    simp only [nT, List.mem_cons, Prod.mk.injEq, List.not_mem_nil, or_false] at h
    obtain ⟨rfl, rfl⟩ := h
    · exact ⟨c_AppendArrayLen, Try.call34⟩
theorem i16w (x : Int) (h1 : 0 ≤ x) (h2 : x < 32768) : IntKind.i16.wrap x = x := by
  simp [IntKind.wrap, IntKind.bits, IntKind.signed]
  omega
theorem c_version (w : World) (n m : Int) (h0 : 0 ≤ n) (h1 : n ≤ 255) (hm : 0 ≤ m) (hm2 : m ≤ 1000) : Calls Try.prog 10 #[.int .u8 n, .int .i64 m] w fun e w' => e = .returned (.int .i64 (n.tmod (m + 1))) ∧ w' = w := by
  have e1 : IntKind.i64.wrap n = n := i64w n (by omega) (by omega)
  have e2 : IntKind.i64.wrap (m + 1) = m + 1 := i64w (m + 1) (by omega) (by omega)
  refine calls_wk (args := [.int .u8 n, .int .i64 m]) Try.func10 rfl rfl ?_
  refine wk_seq ?_
  refine wk_reg (id := 0) ?_
  refine wk_assign rfl rfl ?_
  refine wk_nil ?_
  refine wk_seq ?_
  refine wk_reg (id := 1) ?_
  refine wk_move rfl rfl ?_
  refine wk_conv rfl Try.underlying5 Try.underlying3 rfl ?_
  refine wk_move rfl rfl ?_
  refine wk_add rfl rfl rfl ?_
  refine wk_rem rfl rfl (by rw [e2]; omega) rfl ?_
  refine wk_assign rfl rfl ?_
  refine wk_nil ?_
  exact wk_ret r0 rfl rfl ⟨by rw [e1, e2], rfl⟩
theorem ver_of (n : Int) (m : Nat) (h0 : 0 ≤ n) : ∃ ver : Nat, n.tmod ((m : Int) + 1) = (ver : Int) ∧ ver ≤ m := by
  rw [Int.tmod_eq_emod_of_nonneg h0]
  have h1 := Int.emod_nonneg n (show (m : Int) + 1 ≠ 0 by omega)
  have h2 := Int.emod_lt_of_pos n (show (0 : Int) < (m : Int) + 1 by omega)
  exact ⟨(n % ((m : Int) + 1)).toNat, by omega, by omega⟩
end Go.Proofs.Ytfijlaopidgdpaa
