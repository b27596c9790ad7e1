/-
  The table of the executor over this program, and that it fits; the version that a law takes.
-/
import Derived.Test.YtkgdalmicafndaaSpec9
import Derived.Test.YtkgdalmicafndaaTags0
import Derived.Test.YtkgdalmicafndaaEngG
namespace Go.Proofs.Ytkgdalmicafndaa
open Go Go.RowKit Go.Proofs.Eng
set_option maxRecDepth 20000
set_option maxHeartbeats 4000000

def nT : Tab :=
  ⟨[(7, [0, 1, 2, 3]), (8, [0, 1, 2, 3]), (13, [0, 1]), (14, [0, 1]), (18, [0]), (19, [0]), (24, [0, 1]), (25, [0, 1]), (34, [0, 1, 2, 3, 4]), (35, [0, 1, 2, 3, 4]), (42, [0, 1, 2, 3, 4, 5, 6, 7]), (43, [0, 1, 2, 3, 4, 5, 6, 7]), (71, [0]), (72, [0]), (73, [0, 1, 2, 3]), (74, [0, 1, 2, 3]), (87, [0, 1]), (88, [0, 1]), (90, [0, 1, 2, 3]), (91, [0, 1, 2, 3]), (96, [0, 1, 2, 3]), (97, [0, 1, 2, 3]), (99, [0, 1]), (100, [0, 1]), (102, [0, 1, 2, 3, 4]), (103, [0, 1, 2, 3, 4]), (107, [0, 1, 2]), (108, [0, 1, 2]), (111, [0, 1, 2, 3]), (112, [0, 1, 2, 3]), (115, [0, 1, 2]), (116, [0, 1, 2]), (118, [0, 1, 2, 3, 4, 5, 6]), (119, [0, 1, 2, 3, 4, 5, 6]), (121, [0, 1, 2]), (122, [0, 1, 2]), (126, [0, 16, 17]), (127, [0, 16, 17]), (130, [0, 1, 2, 3, 4, 5, 6, 7]), (131, [0, 1, 2, 3, 4, 5, 6, 7]), (134, [0, 1, 2, 3, 4]), (135, [0, 1, 2, 3, 4]), (138, [0, 1, 17, 18]), (139, [0, 1, 17, 18]), (142, [0, 1, 2, 3, 4, 5, 6, 7]), (143, [0, 1, 2, 3, 4, 5, 6, 7]), (145, [0, 1, 2, 3]), (146, [0, 1, 2, 3]), (150, [0, 1, 2, 3]), (151, [0, 1, 2, 3]), (154, [0, 1, 2, 3]), (155, [0, 1, 2, 3]), (157, [0, 1, 2, 3, 4]), (158, [0, 1, 2, 3, 4]), (161, [0, 1, 2]), (162, [0, 1, 2]), (164, [0, 1, 2, 3, 19, 35, 36, 37, 38]), (165, [0, 1, 2, 3, 19, 35, 36, 37, 38]), (168, [0, 1, 2, 3, 4, 5, 6]), (169, [0, 1, 2, 3, 4, 5, 6]), (171, [0, 1, 2]), (172, [0, 1, 2]), (175, [0, 1, 2, 3, 4, 5]), (176, [0, 1, 2, 3, 4, 5]), (178, [0, 1, 2]), (180, [0, 1, 2, 3]), (181, [0, 1, 2, 3]), (184, [0, 1, 2, 3, 4, 5]), (185, [0, 1, 2, 3, 4, 5]), (190, [0, 1, 2, 3, 4, 5, 6, 7, 8, 9]), (191, [0, 1, 2, 3, 4, 5, 6, 7, 8, 9]), (193, [0, 1, 2, 3]), (194, [0, 1, 2, 3]), (214, [0, 1, 2]), (215, [0, 1, 2]), (221, [0, 1]), (222, [0, 1]), (223, [0]), (224, [0]), (245, [0, 1, 2, 3]), (246, [0, 1, 2, 3]), (256, [0, 1, 2, 3, 4, 5, 6, 7, 8, 9, 10]), (257, [0, 1, 2, 3, 4, 5, 6, 7, 8, 9, 10]), (259, [0, 1]), (260, [0, 1])],
  [(1, (1, false)), (2, (1, false)), (3, (1, false)), (4, (1, false)), (5, (1, false)), (6, (1, false)), (7, (4, true)), (8, (4, true)), (9, (1, false)), (10, (1, false)), (11, (1, false)), (12, (1, false)), (13, (2, true)), (14, (2, true)), (15, (1, false)), (16, (1, false)), (17, (1, false)), (18, (1, true)), (19, (1, true)), (20, (1, false)), (21, (1, false)), (22, (1, false)), (23, (1, false)), (24, (2, true)), (25, (2, true)), (26, (1, false)), (27, (1, false)), (28, (1, false)), (29, (1, false)), (30, (1, false)), (31, (1, false)), (32, (1, false)), (33, (1, false)), (34, (5, true)), (35, (5, true)), (36, (1, false)), (37, (1, false)), (38, (1, false)), (39, (1, false)), (40, (1, false)), (41, (1, false)), (42, (8, true)), (43, (8, true)), (44, (1, false)), (45, (1, false)), (46, (1, false)), (47, (1, false)), (48, (1, false)), (49, (1, false)), (50, (1, false)), (51, (1, false)), (52, (1, false)), (53, (1, false)), (54, (1, false)), (55, (1, false)), (56, (1, false)), (57, (1, false)), (58, (1, false)), (59, (1, false)), (60, (1, false)), (61, (1, false)), (62, (1, false)), (63, (1, false)), (64, (1, false)), (65, (1, false)), (66, (1, false)), (67, (1, false)), (68, (1, false)), (69, (1, false)), (70, (1, false)), (71, (1, true)), (72, (1, true)), (73, (4, true)), (74, (4, true)), (75, (1, false)), (76, (1, false)), (77, (1, false)), (78, (1, false)), (79, (1, false)), (80, (1, false)), (81, (1, false)), (82, (1, false)), (83, (1, false)), (84, (1, false)), (85, (1, false)), (86, (1, false)), (87, (2, true)), (88, (2, true)), (89, (1, false)), (90, (4, true)), (91, (4, true)), (92, (1, false)), (93, (1, false)), (94, (1, false)), (95, (1, false)), (96, (4, true)), (97, (4, true)), (98, (1, false)), (99, (2, true)), (100, (2, true)), (101, (1, false)), (102, (5, true)), (103, (5, true)), (104, (1, false)), (105, (1, false)), (106, (1, false)), (107, (3, true)), (108, (3, true)), (109, (1, false)), (110, (1, false)), (111, (4, true)), (112, (4, true)), (113, (1, false)), (114, (1, false)), (115, (3, true)), (116, (3, true)), (117, (1, false)), (118, (7, true)), (119, (7, true)), (120, (1, false)), (121, (3, true)), (122, (3, true)), (123, (1, false)), (124, (16, true)), (125, (1, false)), (126, (18, true)), (127, (18, true)), (128, (1, false)), (129, (1, false)), (130, (8, true)), (131, (8, true)), (132, (1, false)), (133, (1, false)), (134, (5, true)), (135, (5, true)), (136, (1, false)), (137, (1, false)), (138, (19, true)), (139, (19, true)), (140, (1, false)), (141, (1, false)), (142, (8, true)), (143, (8, true)), (144, (1, false)), (145, (4, true)), (146, (4, true)), (147, (1, false)), (148, (1, false)), (149, (1, false)), (150, (4, true)), (151, (4, true)), (152, (1, false)), (153, (1, false)), (154, (4, true)), (155, (4, true)), (156, (1, false)), (157, (5, true)), (158, (5, true)), (159, (1, false)), (160, (1, false)), (161, (3, true)), (162, (3, true)), (163, (1, false)), (164, (39, true)), (165, (39, true)), (166, (1, false)), (167, (1, false)), (168, (7, true)), (169, (7, true)), (170, (1, false)), (171, (3, true)), (172, (3, true)), (173, (1, false)), (174, (1, false)), (175, (6, true)), (176, (6, true)), (177, (1, false)), (178, (3, true)), (179, (1, false)), (180, (4, true)), (181, (4, true)), (182, (1, false)), (183, (1, false)), (184, (6, true)), (185, (6, true)), (186, (1, false)), (187, (1, false)), (188, (1, false)), (189, (1, false)), (190, (10, true)), (191, (10, true)), (192, (1, false)), (193, (4, true)), (194, (4, true)), (195, (1, false)), (196, (1, false)), (197, (1, false)), (198, (1, false)), (199, (1, false)), (200, (1, false)), (201, (1, false)), (202, (1, false)), (203, (1, false)), (204, (1, false)), (205, (1, false)), (206, (1, false)), (207, (1, false)), (208, (1, false)), (209, (1, false)), (210, (1, false)), (211, (1, false)), (212, (1, false)), (213, (1, false)), (214, (3, true)), (215, (3, true)), (216, (1, false)), (217, (1, false)), (218, (1, false)), (219, (1, false)), (220, (1, false)), (221, (2, true)), (222, (2, true)), (223, (1, true)), (224, (1, true)), (225, (1, false)), (226, (1, false)), (227, (1, false)), (228, (1, false)), (230, (1, false)), (231, (1, false)), (232, (1, false)), (234, (1, false)), (235, (1, false)), (236, (1, false)), (237, (1, false)), (238, (1, false)), (239, (1, false)), (240, (1, false)), (241, (1, false)), (243, (1, false)), (244, (1, false)), (245, (4, true)), (246, (4, true)), (247, (0, true)), (248, (0, true)), (249, (0, true)), (250, (1, false)), (251, (1, false)), (252, (1, false)), (253, (1, false)), (254, (1, false)), (255, (1, false)), (256, (11, true)), (257, (11, true)), (258, (1, false)), (259, (2, true)), (260, (2, true))],
  [(23, 8), (28, 1), (32, 5), (33, 2), (89, 1), (95, 2), (101, 3), (110, 3), (120, 18), (125, 8), (133, 19), (137, 8), (141, 1), (144, 4), (149, 4), (156, 3), (160, 39), (166, 3), (167, 6), (174, 3), (179, 6), (183, 10), (188, 4), (209, 1)],
  [], [(2, .i64), (3, .i64), (5, .u8), (6, .u8), (12, .u64), (21, .i32), (38, .i16), (78, .u32), (85, .u64), (106, .i8), (148, .i8), (153, .i8), (187, .i8), (189, .i8), (196, .u16), (198, .u64), (213, .u64), (228, .i64), (235, .u64), (250, .u8), (251, .u8), (254, .i32), (255, .i32)], [124],
  [(134, .bool), (138, .i8), (117, .i16), (159, .u16), (137, .i32), (148, .i64), (133, .str), (132, .cstr), (141, .nstr), (140, .cnstr), (144, .byt), (143, .cbyt), (116, .nbyt), (115, .cnbyt)], [(131, .al), (130, .cal)], 118, 119, 120, 5, true⟩
theorem nTabOK : TabOK Try.prog nT := tabB_ok (by kernel_rfl)
theorem nConts : Conts Try.prog nT := by
  refine ⟨?_, ?_, ⟨AppendUvarint_any, Try.call118⟩, ⟨c_TagsLen, Try.call119⟩, ⟨c_AppendEach0, Try.call120⟩⟩
  · intro f p h
    simp only [nT, List.mem_cons, Prod.mk.injEq, List.not_mem_nil, or_false] at h
    rcases h with ⟨rfl, rfl⟩ | ⟨rfl, rfl⟩ | ⟨rfl, rfl⟩ | ⟨rfl, rfl⟩ | ⟨rfl, rfl⟩ | ⟨rfl, rfl⟩ | ⟨rfl, rfl⟩ | ⟨rfl, rfl⟩ | ⟨rfl, rfl⟩ | ⟨rfl, rfl⟩ | ⟨rfl, rfl⟩ | ⟨rfl, rfl⟩ | ⟨rfl, rfl⟩ | ⟨rfl, rfl⟩
    · exact ⟨c_AppendBool, Try.call134⟩
    · exact ⟨c_AppendInt8, Try.call138⟩
    · exact ⟨c_AppendInt16, Try.call117⟩
    · exact ⟨c_AppendUint16, Try.call159⟩
    · exact ⟨c_AppendInt32, Try.call137⟩
    · exact ⟨c_AppendInt64, Try.call148⟩
    · exact ⟨c_AppendString, Try.call133⟩
    · exact ⟨c_AppendCompactString, Try.call132⟩
    · exact ⟨c_AppendNullableString, Try.call141⟩
    · exact ⟨c_AppendCompactNullableString, Try.call140⟩
    · exact ⟨c_AppendBytes, Try.call144⟩
    · exact ⟨c_AppendCompactBytes, Try.call143⟩
    · exact ⟨c_AppendNullableBytes, Try.call116⟩
    · exact ⟨c_AppendCompactNullableBytes, Try.call115⟩
  · intro f p h
    simp only [nT, List.mem_cons, Prod.mk.injEq, List.not_mem_nil, or_false] at h
    rcases h with ⟨rfl, rfl⟩ | ⟨rfl, rfl⟩
    · exact ⟨c_AppendArrayLen, Try.call131⟩
    · exact ⟨c_AppendCompactArrayLen, Try.call130⟩
theorem i16w (x : Int) (h1 : 0 ≤ x) (h2 : x < 32768) : IntKind.i16.wrap x = x := by
  simp [IntKind.wrap, IntKind.bits, IntKind.signed]
  omega
theorem c_version (w : World) (n m : Int) (h0 : 0 ≤ n) (h1 : n ≤ 255) (hm : 0 ≤ m) (hm2 : m ≤ 1000) : Calls Try.prog 19 #[.int .u8 n, .int .i64 m] w fun e w' => e = .returned (.int .i64 (n.tmod (m + 1))) ∧ w' = w := by
  have e1 : IntKind.i64.wrap n = n := i64w n (by omega) (by omega)
  have e2 : IntKind.i64.wrap (m + 1) = m + 1 := i64w (m + 1) (by omega) (by omega)
  refine calls_wk (args := [.int .u8 n, .int .i64 m]) Try.func19 rfl rfl ?_
  refine wk_seq ?_
  refine wk_reg (id := 0) ?_
  refine wk_assign rfl rfl ?_
  refine wk_nil ?_
  refine wk_seq ?_
  refine wk_reg (id := 1) ?_
  refine wk_move rfl rfl ?_
  refine wk_conv rfl Try.underlying5 Try.underlying3 rfl ?_
  refine wk_move rfl rfl ?_
  refine wk_add rfl rfl rfl ?_
  refine wk_rem rfl rfl (by rw [e2]; omega) rfl ?_
  refine wk_assign rfl rfl ?_
  refine wk_nil ?_
  exact wk_ret r0 rfl rfl ⟨by rw [e1, e2], rfl⟩
theorem ver_of (n : Int) (m : Nat) (h0 : 0 ≤ n) : ∃ ver : Nat, n.tmod ((m : Int) + 1) = (ver : Int) ∧ ver ≤ m := by
  rw [Int.tmod_eq_emod_of_nonneg h0]
  have h1 := Int.emod_nonneg n (show (m : Int) + 1 ≠ 0 by omega)
  have h2 := Int.emod_lt_of_pos n (show (0 : Int) < (m : Int) + 1 by omega)
  exact ⟨(n % ((m : Int) + 1)).toNat, by omega, by omega⟩
end Go.Proofs.Ytkgdalmicafndaa
