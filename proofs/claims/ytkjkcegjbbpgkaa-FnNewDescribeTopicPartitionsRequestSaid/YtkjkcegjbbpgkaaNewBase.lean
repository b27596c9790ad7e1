/-
  The table of the executor over this program, and that it fits; the version that a law takes.
-/
import Derived.Test.YtkjkcegjbbpgkaaSpec9
import Derived.Test.YtkjkcegjbbpgkaaTags0
import Derived.Test.YtkjkcegjbbpgkaaEngG
namespace Go.Proofs.Ytkjkcegjbbpgkaa
open Go Go.RowKit Go.Proofs.Eng
set_option maxRecDepth 20000
set_option maxHeartbeats 4000000

def nT : Tab :=
  ⟨[(7, [0, 1, 2, 3]), (8, [0, 1, 2, 3]), (13, [0, 1]), (14, [0, 1]), (18, [0]), (19, [0]), (24, [0, 1]), (25, [0, 1]), (34, [0, 1, 2, 3, 4]), (35, [0, 1, 2, 3, 4]), (43, [0, 1, 2, 3, 4, 5, 6, 7]), (44, [0, 1, 2, 3, 4, 5, 6, 7]), (53, [0]), (54, [0]), (55, [0, 1, 2, 3, 4]), (56, [0, 1, 2, 3, 4]), (59, [0, 1]), (60, [0, 1]), (65, [0, 1, 2]), (66, [0, 1, 2]), (75, [0, 1]), (76, [0, 1]), (78, [0, 1, 2, 3, 4, 5, 6, 7, 8]), (79, [0, 1, 2, 3, 4, 5, 6, 7, 8]), (106, [0, 1, 2]), (107, [0, 1, 2]), (113, [0, 1]), (114, [0, 1]), (115, [0]), (116, [0]), (137, [0, 1, 2, 3]), (138, [0, 1, 2, 3]), (148, [0, 1, 2, 3, 4, 5, 6, 7, 8, 9, 10]), (149, [0, 1, 2, 3, 4, 5, 6, 7, 8, 9, 10]), (151, [0, 1]), (152, [0, 1])],
  [(1, (1, false)), (2, (1, false)), (3, (1, false)), (4, (1, false)), (5, (1, false)), (6, (1, false)), (7, (4, true)), (8, (4, true)), (9, (1, false)), (10, (1, false)), (11, (1, false)), (12, (1, false)), (13, (2, true)), (14, (2, true)), (15, (1, false)), (16, (1, false)), (17, (1, false)), (18, (1, true)), (19, (1, true)), (20, (1, false)), (21, (1, false)), (22, (1, false)), (23, (1, false)), (24, (2, true)), (25, (2, true)), (26, (1, false)), (27, (1, false)), (28, (1, false)), (29, (1, false)), (30, (1, false)), (31, (1, false)), (32, (1, false)), (33, (1, false)), (34, (5, true)), (35, (5, true)), (36, (1, false)), (37, (1, false)), (38, (1, false)), (39, (1, false)), (40, (1, false)), (41, (1, false)), (42, (1, false)), (43, (8, true)), (44, (8, true)), (45, (1, false)), (46, (1, false)), (47, (1, false)), (48, (1, false)), (49, (1, false)), (50, (1, false)), (51, (1, false)), (52, (1, false)), (53, (1, true)), (54, (1, true)), (55, (5, true)), (56, (5, true)), (57, (1, false)), (58, (1, false)), (59, (2, true)), (60, (2, true)), (61, (1, false)), (62, (1, false)), (63, (1, false)), (64, (1, false)), (65, (3, true)), (66, (3, true)), (67, (1, false)), (68, (1, false)), (69, (1, false)), (70, (1, false)), (71, (1, false)), (72, (1, false)), (73, (1, false)), (74, (1, false)), (75, (2, true)), (76, (2, true)), (77, (1, false)), (78, (9, true)), (79, (9, true)), (80, (1, false)), (81, (1, false)), (82, (1, false)), (83, (16, true)), (84, (1, false)), (85, (1, false)), (86, (1, false)), (87, (1, false)), (88, (1, false)), (89, (1, false)), (90, (1, false)), (91, (1, false)), (92, (1, false)), (93, (1, false)), (94, (1, false)), (95, (1, false)), (96, (1, false)), (97, (1, false)), (98, (1, false)), (99, (1, false)), (100, (1, false)), (101, (1, false)), (102, (1, false)), (103, (1, false)), (104, (1, false)), (105, (1, false)), (106, (3, true)), (107, (3, true)), (108, (1, false)), (109, (1, false)), (110, (1, false)), (111, (1, false)), (112, (1, false)), (113, (2, true)), (114, (2, true)), (115, (1, true)), (116, (1, true)), (117, (1, false)), (118, (1, false)), (119, (1, false)), (120, (1, false)), (122, (1, false)), (123, (1, false)), (124, (1, false)), (126, (1, false)), (127, (1, false)), (128, (1, false)), (129, (1, false)), (130, (1, false)), (131, (1, false)), (132, (1, false)), (133, (1, false)), (135, (1, false)), (136, (1, false)), (137, (4, true)), (138, (4, true)), (139, (0, true)), (140, (0, true)), (141, (0, true)), (142, (1, false)), (143, (1, false)), (144, (1, false)), (145, (1, false)), (146, (1, false)), (147, (1, false)), (148, (11, true)), (149, (11, true)), (150, (1, false)), (151, (2, true)), (152, (2, true))],
  [(23, 8), (28, 1), (32, 5), (33, 2), (50, 2), (77, 16), (82, 1)],
  [], [(2, .i64), (3, .i64), (5, .u8), (6, .u8), (12, .u64), (21, .i32), (38, .i16), (63, .u32), (73, .u64), (89, .u64), (101, .u16), (105, .u64), (120, .i64), (127, .u64), (142, .u8), (143, .u8), (146, .i32), (147, .i32)], [83],
  [(45, .bool), (49, .i16), (61, .u16), (34, .i32), (44, .i64), (30, .str), (29, .cstr)], [(28, .al), (27, .cal), (48, .nal), (47, .cnal)], 31, 32, 33, 5, true⟩
theorem nTabOK : TabOK Try.prog nT := tabB_ok (by kernel_rfl)
theorem nConts : Conts Try.prog nT := by
  refine ⟨?_, ?_, ⟨AppendUvarint_any, Try.call31⟩, ⟨c_TagsLen, Try.call32⟩, ⟨c_AppendEach0, Try.call33⟩⟩
  · intro f p h
    simp only [nT, List.mem_cons, Prod.mk.injEq, List.not_mem_nil, or_false] at h
    rcases h with ⟨rfl, rfl⟩ | ⟨rfl, rfl⟩ | ⟨rfl, rfl⟩ | ⟨rfl, rfl⟩ | ⟨rfl, rfl⟩ | ⟨rfl, rfl⟩ | ⟨rfl, rfl⟩
    · exact ⟨c_AppendBool, Try.call45⟩
    · exact ⟨c_AppendInt16, Try.call49⟩
    · exact ⟨c_AppendUint16, Try.call61⟩
    · exact ⟨c_AppendInt32, Try.call34⟩
    · exact ⟨c_AppendInt64, Try.call44⟩
    · exact ⟨c_AppendString, Try.call30⟩
    · exact ⟨c_AppendCompactString, Try.call29⟩
  · intro f p h
    simp only [nT, List.mem_cons, Prod.mk.injEq, List.not_mem_nil, or_false] at h
    rcases h with ⟨rfl, rfl⟩ | ⟨rfl, rfl⟩ | ⟨rfl, rfl⟩ | ⟨rfl, rfl⟩
    · exact ⟨c_AppendArrayLen, Try.call28⟩
    · exact ⟨c_AppendCompactArrayLen, Try.call27⟩
    · exact ⟨c_AppendNullableArrayLen, Try.call48⟩
    · exact ⟨c_AppendCompactNullableArrayLen, Try.call47⟩
theorem i16w (x : Int) (h1 : 0 ≤ x) (h2 : x < 32768) : IntKind.i16.wrap x = x := by
  simp [IntKind.wrap, IntKind.bits, IntKind.signed]
  omega
theorem c_version (w : World) (n m : Int) (h0 : 0 ≤ n) (h1 : n ≤ 255) (hm : 0 ≤ m) (hm2 : m ≤ 1000) : Calls Try.prog 9 #[.int .u8 n, .int .i64 m] w fun e w' => e = .returned (.int .i64 (n.tmod (m + 1))) ∧ w' = w := by
  have e1 : IntKind.i64.wrap n = n := i64w n (by omega) (by omega)
  have e2 : IntKind.i64.wrap (m + 1) = m + 1 := i64w (m + 1) (by omega) (by omega)
  refine calls_wk (args := [.int .u8 n, .int .i64 m]) Try.func9 rfl rfl ?_
  refine wk_seq ?_
  refine wk_reg (id := 0) ?_
  refine wk_assign rfl rfl ?_
  refine wk_nil ?_
  refine wk_seq ?_
  refine wk_reg (id := 1) ?_
  refine wk_move rfl rfl ?_
  refine wk_conv rfl Try.underlying5 Try.underlying3 rfl ?_
  refine wk_move rfl rfl ?_
  refine wk_add rfl rfl rfl ?_
  refine wk_rem rfl rfl (by rw [e2]; omega) rfl ?_
  refine wk_assign rfl rfl ?_
  refine wk_nil ?_
  exact wk_ret r0 rfl rfl ⟨by rw [e1, e2], rfl⟩
theorem ver_of (n : Int) (m : Nat) (h0 : 0 ≤ n) : ∃ ver : Nat, n.tmod ((m : Int) + 1) = (ver : Int) ∧ ver ≤ m := by
  rw [Int.tmod_eq_emod_of_nonneg h0]
  have h1 := Int.emod_nonneg n (show (m : Int) + 1 ≠ 0 by omega)
  have h2 := Int.emod_lt_of_pos n (show (0 : Int) < (m : Int) + 1 by omega)
  exact ⟨(n % ((m : Int) + 1)).toNat, by omega, by omega⟩
end Go.Proofs.Ytkjkcegjbbpgkaa
