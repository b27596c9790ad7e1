/-
  The tables of the executors over this program, and that they fit.
-/
import Derived.Test.YtkakokckdlkbpaaGreatDoorRK6
import Derived.Test.YtkakokckdlkbpaaGreatDoorRK7
import Derived.Test.YtkakokckdlkbpaaGreatDoorSpecS
import Derived.Test.YtkakokckdlkbpaaGreatDoorRAgain
set_option linter.unusedVariables false
set_option linter.unusedSimpArgs false
namespace Go.Proofs.YtkakokckdlkbpaaGreatDoor
open Go Go.RowKit Go.Proofs.Eng
set_option maxRecDepth 20000
set_option maxHeartbeats 4000000

def nT : Tab :=
  ⟨[(7, [0, 1, 2, 3]), (8, [0, 1, 2, 3]), (13, [0, 1]), (14, [0, 1]), (18, [0]), (19, [0]), (25, [0, 1, 2, 3, 4]), (26, [0, 1, 2, 3, 4]), (31, [0, 1]), (32, [0, 1]), (45, [0, 1, 2, 3, 4, 5, 6, 7]), (46, [0, 1, 2, 3, 4, 5, 6, 7]), (72, [0, 1]), (73, [0, 1]), (80, [0]), (81, [0]), (82, [0, 1, 2, 3, 4, 5, 6, 7, 8, 9, 10, 11, 12, 13]), (83, [0, 1, 2, 3, 4, 5, 6, 7, 8, 9, 10, 11, 12, 13]), (101, [0, 16, 17]), (102, [0, 16, 17]), (106, [0, 1, 2, 3]), (107, [0, 1, 2, 3]), (110, [0, 1, 2, 3]), (111, [0, 1, 2, 3]), (116, [0, 16, 17]), (117, [0, 16, 17]), (118, [0, 1, 2, 3, 4]), (119, [0, 1, 2, 3, 4]), (122, [0, 1, 2, 3]), (123, [0, 1, 2, 3]), (126, [0, 1, 2]), (127, [0, 1, 2]), (130, [0, 1, 2]), (131, [0, 1, 2]), (133, [0, 1, 2]), (134, [0, 1, 2]), (137, [0, 1, 2]), (138, [0, 1, 2]), (141, [0, 1, 2]), (142, [0, 1, 2]), (144, [0, 1, 2]), (145, [0, 1, 2]), (146, [0, 1, 2, 3, 4, 20, 21, 24]), (147, [0, 1, 2, 3, 4, 20, 21, 24]), (150, [0, 1, 2, 3]), (151, [0, 1, 2, 3]), (155, [0, 1, 2, 3, 4, 5, 6]), (156, [0, 1, 2, 3, 4, 5, 6]), (159, [0, 1, 2]), (160, [0, 1, 2]), (162, [0, 1, 2, 3]), (163, [0, 1, 2, 3]), (165, [0, 1, 2, 3, 4, 5, 6, 7, 8, 9]), (166, [0, 1, 2, 3, 4, 5, 6, 7, 8, 9]), (168, [0, 1, 2, 3, 4, 5]), (169, [0, 1, 2, 3, 4, 5]), (171, [0, 1, 2]), (172, [0, 1, 2]), (175, [0, 16, 17]), (176, [0, 16, 17]), (179, [0, 1, 2, 3, 4, 5, 6]), (180, [0, 1, 2, 3, 4, 5, 6]), (182, [0, 1, 2, 3, 4]), (183, [0, 1, 2, 3, 4]), (186, [0, 1, 2, 3, 4, 5]), (187, [0, 1, 2, 3, 4, 5]), (190, [0, 1, 2]), (191, [0, 1, 2]), (193, [0, 1, 17, 18, 19]), (194, [0, 1, 17, 18, 19]), (196, [0, 1, 2, 3]), (198, [0, 1, 2, 3, 4, 5, 6, 7]), (199, [0, 1, 2, 3, 4, 5, 6, 7]), (202, [0, 1, 17, 18]), (203, [0, 1, 17, 18]), (205, [0, 1, 2, 3, 4, 5]), (206, [0, 1, 2, 3, 4, 5]), (214, [0, 1]), (215, [0, 1]), (248, [0, 1, 2]), (249, [0, 1, 2]), (255, [0, 1]), (256, [0, 1]), (257, [0]), (258, [0]), (278, [0, 1, 2, 3]), (279, [0, 1, 2, 3]), (289, [0, 1, 2, 3, 4, 5, 6, 7, 8, 9, 10]), (290, [0, 1, 2, 3, 4, 5, 6, 7, 8, 9, 10]), (292, [0, 1]), (293, [0, 1]), (294, [0]), (295, [0])],
  [(1, (1, false)), (2, (1, false)), (3, (1, false)), (4, (1, false)), (5, (1, false)), (6, (1, false)), (7, (4, true)), (8, (4, true)), (9, (1, false)), (10, (1, false)), (11, (1, false)), (12, (1, false)), (13, (2, true)), (14, (2, true)), (15, (1, false)), (16, (1, false)), (17, (1, false)), (18, (1, true)), (19, (1, true)), (20, (1, false)), (21, (1, false)), (22, (1, false)), (23, (1, false)), (24, (1, false)), (25, (5, true)), (26, (5, true)), (27, (1, false)), (28, (1, false)), (29, (1, false)), (30, (1, false)), (31, (2, true)), (32, (2, true)), (33, (1, false)), (34, (1, false)), (36, (1, false)), (37, (1, false)), (38, (1, false)), (39, (1, false)), (40, (1, false)), (41, (1, false)), (42, (1, false)), (43, (1, false)), (44, (1, false)), (45, (8, true)), (46, (8, true)), (47, (1, false)), (48, (1, false)), (49, (1, false)), (50, (1, false)), (51, (1, false)), (52, (1, false)), (53, (1, false)), (54, (1, false)), (55, (1, false)), (56, (1, false)), (57, (1, false)), (58, (1, false)), (59, (1, false)), (60, (1, false)), (61, (1, false)), (62, (1, false)), (63, (1, false)), (64, (1, false)), (65, (1, false)), (66, (1, false)), (67, (1, false)), (68, (1, false)), (69, (1, false)), (70, (1, false)), (71, (1, false)), (72, (2, true)), (73, (2, true)), (74, (1, false)), (75, (1, false)), (76, (1, false)), (77, (1, false)), (78, (1, false)), (79, (1, false)), (80, (1, true)), (81, (1, true)), (82, (14, true)), (83, (14, true)), (84, (1, false)), (85, (1, false)), (86, (1, false)), (87, (1, false)), (88, (1, false)), (89, (1, false)), (90, (1, false)), (91, (1, false)), (92, (1, false)), (93, (1, false)), (94, (1, false)), (95, (1, false)), (96, (1, false)), (97, (1, false)), (98, (1, false)), (99, (16, true)), (100, (1, false)), (101, (18, true)), (102, (18, true)), (103, (1, false)), (104, (1, false)), (105, (1, false)), (106, (4, true)), (107, (4, true)), (108, (1, false)), (109, (1, false)), (110, (4, true)), (111, (4, true)), (112, (1, false)), (113, (1, false)), (114, (1, false)), (115, (1, false)), (116, (18, true)), (117, (18, true)), (118, (5, true)), (119, (5, true)), (120, (1, false)), (121, (1, false)), (122, (4, true)), (123, (4, true)), (124, (1, false)), (125, (1, false)), (126, (3, true)), (127, (3, true)), (128, (1, false)), (129, (1, false)), (130, (3, true)), (131, (3, true)), (132, (1, false)), (133, (3, true)), (134, (3, true)), (135, (1, false)), (136, (1, false)), (137, (3, true)), (138, (3, true)), (139, (1, false)), (140, (1, false)), (141, (3, true)), (142, (3, true)), (143, (1, false)), (144, (3, true)), (145, (3, true)), (146, (25, true)), (147, (25, true)), (148, (1, false)), (149, (1, false)), (150, (4, true)), (151, (4, true)), (152, (1, false)), (153, (1, false)), (154, (1, false)), (155, (7, true)), (156, (7, true)), (157, (1, false)), (158, (1, false)), (159, (3, true)), (160, (3, true)), (161, (1, false)), (162, (4, true)), (163, (4, true)), (164, (1, false)), (165, (10, true)), (166, (10, true)), (167, (1, false)), (168, (6, true)), (169, (6, true)), (170, (1, false)), (171, (3, true)), (172, (3, true)), (173, (1, false)), (174, (1, false)), (175, (18, true)), (176, (18, true)), (177, (1, false)), (178, (1, false)), (179, (7, true)), (180, (7, true)), (181, (1, false)), (182, (5, true)), (183, (5, true)), (184, (1, false)), (185, (1, false)), (186, (6, true)), (187, (6, true)), (188, (1, false)), (189, (1, false)), (190, (3, true)), (191, (3, true)), (192, (1, false)), (193, (20, true)), (194, (20, true)), (195, (1, false)), (196, (4, true)), (197, (1, false)), (198, (8, true)), (199, (8, true)), (200, (1, false)), (201, (1, false)), (202, (19, true)), (203, (19, true)), (204, (1, false)), (205, (6, true)), (206, (6, true)), (207, (1, false)), (208, (1, false)), (209, (1, false)), (210, (1, false)), (211, (1, false)), (212, (1, false)), (213, (1, false)), (214, (2, true)), (215, (2, true)), (216, (1, false)), (217, (1, false)), (218, (1, false)), (219, (1, false)), (220, (1, false)), (221, (1, false)), (222, (1, false)), (223, (1, false)), (224, (1, false)), (225, (1, false)), (226, (1, false)), (227, (1, false)), (228, (1, false)), (229, (1, false)), (230, (1, false)), (231, (1, false)), (232, (1, false)), (233, (1, false)), (234, (1, false)), (235, (0, true)), (236, (0, true)), (237, (1, false)), (238, (1, false)), (239, (1, false)), (240, (1, false)), (241, (1, false)), (242, (1, false)), (244, (1, false)), (245, (1, false)), (246, (1, false)), (247, (1, false)), (248, (3, true)), (249, (3, true)), (250, (1, false)), (251, (1, false)), (252, (1, false)), (253, (1, false)), (254, (1, false)), (255, (2, true)), (256, (2, true)), (257, (1, true)), (258, (1, true)), (259, (1, false)), (260, (1, false)), (261, (1, false)), (262, (1, false)), (264, (1, false)), (265, (1, false)), (266, (1, false)), (268, (1, false)), (269, (1, false)), (270, (1, false)), (271, (1, false)), (272, (1, false)), (273, (1, false)), (274, (1, false)), (276, (1, false)), (277, (1, false)), (278, (4, true)), (279, (4, true)), (280, (0, true)), (281, (0, true)), (282, (0, true)), (283, (1, false)), (284, (1, false)), (285, (1, false)), (286, (1, false)), (287, (1, false)), (288, (1, false)), (289, (11, true)), (290, (11, true)), (291, (1, false)), (292, (2, true)), (293, (2, true)), (294, (1, true)), (295, (1, true)), (296, (1, false))],
  [(22, 1), (23, 5), (24, 2), (30, 8), (77, 18), (78, 18), (100, 4), (105, 4), (109, 1), (115, 1), (121, 3), (125, 3), (132, 3), (136, 3), (143, 4), (154, 3), (158, 4), (164, 6), (170, 18), (174, 7), (178, 5), (184, 3), (185, 4), (189, 20), (197, 19), (201, 6), (239, 1)],
  [], [(2, .i64), (3, .i64), (5, .u8), (6, .u8), (12, .u64), (21, .i32), (40, .i16), (71, .u32), (76, .i8), (90, .u64), (149, .u16), (213, .u64), (247, .u64), (262, .i64), (269, .u64), (283, .u8), (284, .u8), (287, .i32), (288, .i32)], [99],
  [(127, .bool), (126, .i8), (137, .i16), (150, .u16), (125, .i32), (131, .i64), (130, .uuid), (142, .str), (141, .cstr), (124, .nstr), (123, .cnstr)], [(129, .al), (128, .cal), (147, .nal), (146, .cnal)], 132, 133, 134, 5, false⟩
theorem nTabOK : TabOK Tryz.prog nT := tabB_ok (by kernel_rfl)
theorem nConts : Conts Tryz.prog nT := by
  refine ⟨?_, ?_, ⟨AppendUvarint_any, Tryz.call132⟩, ⟨c_TagsLen, Tryz.call133⟩, ⟨c_AppendEach, Tryz.call134⟩⟩
  · intro f p h
    simp only [nT, List.mem_cons, Prod.mk.injEq, List.not_mem_nil, or_false] at h
    rcases h with ⟨rfl, rfl⟩ | ⟨rfl, rfl⟩ | ⟨rfl, rfl⟩ | ⟨rfl, rfl⟩ | ⟨rfl, rfl⟩ | ⟨rfl, rfl⟩ | ⟨rfl, rfl⟩ | ⟨rfl, rfl⟩ | ⟨rfl, rfl⟩ | ⟨rfl, rfl⟩ | ⟨rfl, rfl⟩
    · exact ⟨c_AppendBool, Tryz.call127⟩
    · exact ⟨c_AppendInt8, Tryz.call126⟩
    · exact ⟨c_AppendInt16, Tryz.call137⟩
    · exact ⟨c_AppendUint16, Tryz.call150⟩
    · exact ⟨c_AppendInt32, Tryz.call125⟩
    · exact ⟨c_AppendInt64, Tryz.call131⟩
    · exact ⟨c_AppendUuid, Tryz.call130⟩
    · exact ⟨c_AppendString, Tryz.call142⟩
    · exact ⟨c_AppendCompactString, Tryz.call141⟩
    · exact ⟨c_AppendNullableString, Tryz.call124⟩
    · exact ⟨c_AppendCompactNullableString, Tryz.call123⟩
  · intro f p h
    simp only [nT, List.mem_cons, Prod.mk.injEq, List.not_mem_nil, or_false] at h
    rcases h with ⟨rfl, rfl⟩ | ⟨rfl, rfl⟩ | ⟨rfl, rfl⟩ | ⟨rfl, rfl⟩
    · exact ⟨c_AppendArrayLen, Tryz.call129⟩
    · exact ⟨c_AppendCompactArrayLen, Tryz.call128⟩
    · exact ⟨c_AppendNullableArrayLen, Tryz.call147⟩
    · exact ⟨c_AppendCompactNullableArrayLen, Tryz.call146⟩
/-! ## defaults -/
theorem dc_112 : DContract Tryz.prog 112 14 [(6, .int .i32 2147483647)] :=
  calls_default nTabOK (dt := []) (fun f n ss h => by cases h) Tryz.func112 rfl rfl rfl (m := 2000) (by kernel_rfl)
theorem dc_135 : DContract Tryz.prog 135 5 [] :=
  calls_default nTabOK (dt := []) (fun f n ss h => by cases h) Tryz.func135 rfl rfl rfl (m := 2000) (by kernel_rfl)
theorem dc_138 : DContract Tryz.prog 138 4 [(2, .int .i32 15000)] :=
  calls_default nTabOK (dt := []) (fun f n ss h => by cases h) Tryz.func138 rfl rfl rfl (m := 2000) (by kernel_rfl)
theorem dc_143 : DContract Tryz.prog 143 3 [] :=
  calls_default nTabOK (dt := []) (fun f n ss h => by cases h) Tryz.func143 rfl rfl rfl (m := 2000) (by kernel_rfl)
theorem dc_148 : DContract Tryz.prog 148 25 [] :=
  calls_default nTabOK (dt := []) (fun f n ss h => by cases h) Tryz.func148 rfl rfl rfl (m := 2000) (by kernel_rfl)
theorem dc_151 : DContract Tryz.prog 151 7 [(2, .bool true)] :=
  calls_default nTabOK (dt := []) (fun f n ss h => by cases h) Tryz.func151 rfl rfl rfl (m := 2000) (by kernel_rfl)
theorem dc_154 : DContract Tryz.prog 154 10 [(4, .int .i8 1), (6, .int .i32 (-1)), (8, .int .i32 (-2147483648))] :=
  calls_default nTabOK (dt := []) (fun f n ss h => by cases h) Tryz.func154 rfl rfl rfl (m := 2000) (by kernel_rfl)
theorem dc_156 : DContract Tryz.prog 156 3 [] :=
  calls_default nTabOK (dt := []) (fun f n ss h => by cases h) Tryz.func156 rfl rfl rfl (m := 2000) (by kernel_rfl)
theorem dc_159 : DContract Tryz.prog 159 6 [(2, .int .i32 (-1))] :=
  calls_default nTabOK (dt := []) (fun f n ss h => by cases h) Tryz.func159 rfl rfl rfl (m := 2000) (by kernel_rfl)
theorem dc_162 : DContract Tryz.prog 162 8 [(2, .int .i32 (-1)), (5, .int .i64 (-1))] :=
  calls_default nTabOK (dt := []) (fun f n ss h => by cases h) Tryz.func162 rfl rfl rfl (m := 2000) (by kernel_rfl)
theorem dc_183 : DContract Tryz.prog 183 18 [] :=
  calls_default nTabOK (dt := []) (fun f n ss h => by cases h) Tryz.func183 rfl rfl rfl (m := 2000) (by kernel_rfl)
theorem dc_185 : DContract Tryz.prog 185 4 [] :=
  calls_default nTabOK (dt := []) (fun f n ss h => by cases h) Tryz.func185 rfl rfl rfl (m := 2000) (by kernel_rfl)
theorem dc_186 : DContract Tryz.prog 186 4 [] :=
  calls_default nTabOK (dt := []) (fun f n ss h => by cases h) Tryz.func186 rfl rfl rfl (m := 2000) (by kernel_rfl)
theorem dc_189 : DContract Tryz.prog 189 18 [] :=
  calls_default nTabOK (dt := []) (fun f n ss h => by cases h) Tryz.func189 rfl rfl rfl (m := 2000) (by kernel_rfl)
theorem dc_196 : DContract Tryz.prog 196 3 [] :=
  calls_default nTabOK (dt := []) (fun f n ss h => by cases h) Tryz.func196 rfl rfl rfl (m := 2000) (by kernel_rfl)
theorem dc_201 : DContract Tryz.prog 201 3 [] :=
  calls_default nTabOK (dt := []) (fun f n ss h => by cases h) Tryz.func201 rfl rfl rfl (m := 2000) (by kernel_rfl)
theorem dc_202 : DContract Tryz.prog 202 3 [] :=
  calls_default nTabOK (dt := []) (fun f n ss h => by cases h) Tryz.func202 rfl rfl rfl (m := 2000) (by kernel_rfl)
theorem dc_203 : DContract Tryz.prog 203 3 [] :=
  calls_default nTabOK (dt := []) (fun f n ss h => by cases h) Tryz.func203 rfl rfl rfl (m := 2000) (by kernel_rfl)
theorem dc_204 : DContract Tryz.prog 204 4 [] :=
  calls_default nTabOK (dt := []) (fun f n ss h => by cases h) Tryz.func204 rfl rfl rfl (m := 2000) (by kernel_rfl)
theorem dc_206 : DContract Tryz.prog 206 3 [] :=
  calls_default nTabOK (dt := []) (fun f n ss h => by cases h) Tryz.func206 rfl rfl rfl (m := 2000) (by kernel_rfl)
theorem dc_207 : DContract Tryz.prog 207 3 [] :=
  calls_default nTabOK (dt := []) (fun f n ss h => by cases h) Tryz.func207 rfl rfl rfl (m := 2000) (by kernel_rfl)
theorem dc_208 : DContract Tryz.prog 208 4 [] :=
  calls_default nTabOK (dt := []) (fun f n ss h => by cases h) Tryz.func208 rfl rfl rfl (m := 2000) (by kernel_rfl)
theorem dc_209 : DContract Tryz.prog 209 6 [] :=
  calls_default nTabOK (dt := []) (fun f n ss h => by cases h) Tryz.func209 rfl rfl rfl (m := 2000) (by kernel_rfl)
theorem dc_211 : DContract Tryz.prog 211 18 [] :=
  calls_default nTabOK (dt := []) (fun f n ss h => by cases h) Tryz.func211 rfl rfl rfl (m := 2000) (by kernel_rfl)
theorem dc_212 : DContract Tryz.prog 212 7 [] :=
  calls_default nTabOK (dt := []) (fun f n ss h => by cases h) Tryz.func212 rfl rfl rfl (m := 2000) (by kernel_rfl)
theorem dc_213 : DContract Tryz.prog 213 5 [] :=
  calls_default nTabOK (dt := []) (fun f n ss h => by cases h) Tryz.func213 rfl rfl rfl (m := 2000) (by kernel_rfl)
theorem dc_214 : DContract Tryz.prog 214 3 [] :=
  calls_default nTabOK (dt := []) (fun f n ss h => by cases h) Tryz.func214 rfl rfl rfl (m := 2000) (by kernel_rfl)
theorem dc_215 : DContract Tryz.prog 215 20 [] :=
  calls_default nTabOK (dt := []) (fun f n ss h => by cases h) Tryz.func215 rfl rfl rfl (m := 2000) (by kernel_rfl)
theorem dc_216 : DContract Tryz.prog 216 4 [] :=
  calls_default nTabOK (dt := []) (fun f n ss h => by cases h) Tryz.func216 rfl rfl rfl (m := 2000) (by kernel_rfl)
theorem dc_217 : DContract Tryz.prog 217 19 [] :=
  calls_default nTabOK (dt := []) (fun f n ss h => by cases h) Tryz.func217 rfl rfl rfl (m := 2000) (by kernel_rfl)
theorem dc_218 : DContract Tryz.prog 218 6 [(2, .int .i64 (-1)), (3, .int .i32 (-1))] :=
  calls_default nTabOK (dt := []) (fun f n ss h => by cases h) Tryz.func218 rfl rfl rfl (m := 2000) (by kernel_rfl)
/-! ## reading -/
def aR : TabR :=
  ⟨[(178, .bool), (177, .i8), (195, .i16), (205, .u16), (176, .i32), (187, .i64), (184, .uuid), (200, .str), (199, .cstr), (175, .nstr), (173, .cnstr)], [(180, false), (179, true)], 181, 182, 188,
  [(112, (14, [(6, .int .i32 2147483647)])), (135, (5, [])), (138, (4, [(2, .int .i32 15000)])), (143, (3, [])), (148, (25, [])), (151, (7, [(2, .bool true)])), (154, (10, [(4, .int .i8 1), (6, .int .i32 (-1)), (8, .int .i32 (-2147483648))])), (156, (3, [])), (159, (6, [(2, .int .i32 (-1))])), (162, (8, [(2, .int .i32 (-1)), (5, .int .i64 (-1))])), (183, (18, [])), (185, (4, [])), (186, (4, [])), (189, (18, [])), (196, (3, [])), (201, (3, [])), (202, (3, [])), (203, (3, [])), (204, (4, [])), (206, (3, [])), (207, (3, [])), (208, (4, [])), (209, (6, [])), (211, (18, [])), (212, (7, [])), (213, (5, [])), (214, (3, [])), (215, (20, [])), (216, (4, [])), (217, (19, [])), (218, (6, [(2, .int .i64 (-1)), (3, .int .i32 (-1))]))],
  [(22, ([.int .u8], [.int .u8 0])),
   (77, ([.int .u8, .int .u8, .int .u8, .int .u8, .int .u8, .int .u8, .int .u8, .int .u8, .int .u8, .int .u8, .int .u8, .int .u8, .int .u8, .int .u8, .int .u8, .int .u8, .arr [.int .i32, .int .i32, .arr [.int .i64, .int .i64, .arr [.int .i8], .tags false], .tags false], .tags false], [.int .u8 0, .int .u8 0, .int .u8 0, .int .u8 0, .int .u8 0, .int .u8 0, .int .u8 0, .int .u8 0, .int .u8 0, .int .u8 0, .int .u8 0, .int .u8 0, .int .u8 0, .int .u8 0, .int .u8 0, .int .u8 0, .slice none 0 0, .map none])),
   (78, ([.int .u8, .int .u8, .int .u8, .int .u8, .int .u8, .int .u8, .int .u8, .int .u8, .int .u8, .int .u8, .int .u8, .int .u8, .int .u8, .int .u8, .int .u8, .int .u8, .arr [.int .i32], .tags false], [.int .u8 0, .int .u8 0, .int .u8 0, .int .u8 0, .int .u8 0, .int .u8 0, .int .u8 0, .int .u8 0, .int .u8 0, .int .u8 0, .int .u8 0, .int .u8 0, .int .u8 0, .int .u8 0, .int .u8 0, .int .u8 0, .slice none 0 0, .map none])),
   (100, ([.int .i32, .int .i32, .arr [.int .i64, .int .i64, .arr [.int .i8], .tags false], .tags false], [.int .i32 0, .int .i32 0, .slice none 0 0, .map none])),
   (105, ([.int .i64, .int .i64, .arr [.int .i8], .tags false], [.int .i64 0, .int .i64 0, .slice none 0 0, .map none])),
   (109, ([.int .i8], [.int .i8 0])),
   (115, ([.int .i32], [.int .i32 0])),
   (121, ([.str, .arr [.int .i32, .int .i64, .tags false], .tags false], [.string ByteArray.empty, .slice none 0 0, .map none])),
   (125, ([.int .i32, .int .i64, .tags false], [.int .i32 0, .int .i64 0, .map none])),
   (132, ([.str, .arr [.str, .arr [.int .i32], .tags false], .tags false], [.string ByteArray.empty, .slice none 0 0, .map none])),
   (136, ([.str, .arr [.int .i32], .tags false], [.string ByteArray.empty, .slice none 0 0, .map none])),
   (143, ([.str, .str, .int .u16, .tags false], [.string ByteArray.empty, .string ByteArray.empty, .int .u16 0, .map none])),
   (154, ([.str, .arr [.int .i32, .int .i16, .pstr, .tags false], .tags false], [.string ByteArray.empty, .slice none 0 0, .map none])),
   (158, ([.int .i32, .int .i16, .pstr, .tags false], [.int .i32 0, .int .i16 0, .pointer none, .map none])),
   (164, ([.int .i32, .str, .int .i32, .pstr, .bool, .tags false], [.int .i32 0, .string ByteArray.empty, .int .i32 0, .pointer none, .bool false, .map none])),
   (170, ([.int .u8, .int .u8, .int .u8, .int .u8, .int .u8, .int .u8, .int .u8, .int .u8, .int .u8, .int .u8, .int .u8, .int .u8, .int .u8, .int .u8, .int .u8, .int .u8, .arr [.int .i32, .int .i16, .pstr, .int .i32, .int .i64, .arr [.int .i64, .int .i64, .int .i8, .int .i16, .tags false], .tags false], .tags false], [.int .u8 0, .int .u8 0, .int .u8 0, .int .u8 0, .int .u8 0, .int .u8 0, .int .u8 0, .int .u8 0, .int .u8 0, .int .u8 0, .int .u8 0, .int .u8 0, .int .u8 0, .int .u8 0, .int .u8 0, .int .u8 0, .slice none 0 0, .map none])),
   (174, ([.int .i32, .int .i16, .pstr, .int .i32, .int .i64, .arr [.int .i64, .int .i64, .int .i8, .int .i16, .tags false], .tags false], [.int .i32 0, .int .i16 0, .pointer none, .int .i32 0, .int .i64 0, .slice none 0 0, .map none])),
   (178, ([.int .i64, .int .i64, .int .i8, .int .i16, .tags false], [.int .i64 0, .int .i64 0, .int .i8 0, .int .i16 0, .map none])),
   (184, ([.str, .arr [.int .i32, .int .u8, .int .u8, .int .u8, .int .u8, .int .u8, .int .u8, .int .u8, .int .u8, .int .u8, .int .u8, .int .u8, .int .u8, .int .u8, .int .u8, .int .u8, .int .u8, .int .i32, .int .i32, .tags false], .tags false], [.string ByteArray.empty, .slice none 0 0, .map none])),
   (185, ([.str, .str, .int .u16, .tags false], [.string ByteArray.empty, .string ByteArray.empty, .int .u16 0, .map none])),
   (189, ([.int .i32, .int .u8, .int .u8, .int .u8, .int .u8, .int .u8, .int .u8, .int .u8, .int .u8, .int .u8, .int .u8, .int .u8, .int .u8, .int .u8, .int .u8, .int .u8, .int .u8, .int .i32, .int .i32, .tags false], [.int .i32 0, .int .u8 0, .int .u8 0, .int .u8 0, .int .u8 0, .int .u8 0, .int .u8 0, .int .u8 0, .int .u8 0, .int .u8 0, .int .u8 0, .int .u8 0, .int .u8 0, .int .u8 0, .int .u8 0, .int .u8 0, .int .u8 0, .int .i32 0, .int .i32 0, .map none])),
   (197, ([.str, .int .u8, .int .u8, .int .u8, .int .u8, .int .u8, .int .u8, .int .u8, .int .u8, .int .u8, .int .u8, .int .u8, .int .u8, .int .u8, .int .u8, .int .u8, .int .u8, .arr [.int .i32, .int .i64, .int .i64, .int .i32, .pstr, .tags false], .tags false], [.string ByteArray.empty, .int .u8 0, .int .u8 0, .int .u8 0, .int .u8 0, .int .u8 0, .int .u8 0, .int .u8 0, .int .u8 0, .int .u8 0, .int .u8 0, .int .u8 0, .int .u8 0, .int .u8 0, .int .u8 0, .int .u8 0, .int .u8 0, .slice none 0 0, .map none])),
   (201, ([.int .i32, .int .i64, .int .i64, .int .i32, .pstr, .tags false], [.int .i32 0, .int .i64 0, .int .i64 0, .int .i32 0, .pointer none, .map none])),
   (239, ([.int .u32], [.int .u32 0]))]⟩
theorem aROK (E : Value) : TabROK Tryz.prog aR 215 1 E := by
  refine ⟨?_, ?_, ⟨rd_Ok, Tryz.call181⟩, ⟨rd_Complete _ E rfl, Tryz.call182⟩, ⟨rd_Tags, Tryz.call188⟩, ?_, elB_ok (by kernel_rfl)⟩
  · intro f p h
    simp only [aR, List.mem_cons, Prod.mk.injEq, List.not_mem_nil, or_false] at h
    rcases h with ⟨rfl, rfl⟩ | ⟨rfl, rfl⟩ | ⟨rfl, rfl⟩ | ⟨rfl, rfl⟩ | ⟨rfl, rfl⟩ | ⟨rfl, rfl⟩ | ⟨rfl, rfl⟩ | ⟨rfl, rfl⟩ | ⟨rfl, rfl⟩ | ⟨rfl, rfl⟩ | ⟨rfl, rfl⟩
    · exact ⟨rd_Bool, Tryz.call178⟩
    · exact ⟨rd_Int8, Tryz.call177⟩
    · exact ⟨rd_Int16, Tryz.call195⟩
    · exact ⟨rd_Uint16, Tryz.call205⟩
    · exact ⟨rd_Int32, Tryz.call176⟩
    · exact ⟨rd_Int64, Tryz.call187⟩
    · exact ⟨rd_Uuid, Tryz.call184⟩
    · exact ⟨rd_String, Tryz.call200⟩
    · exact ⟨rd_CompactString, Tryz.call199⟩
    · exact ⟨rd_NullableString, Tryz.call175⟩
    · exact ⟨rd_CompactNullableString, Tryz.call173⟩
  · intro f p h
    simp only [aR, List.mem_cons, Prod.mk.injEq, List.not_mem_nil, or_false] at h
    rcases h with ⟨rfl, rfl⟩ | ⟨rfl, rfl⟩
    · exact ⟨rd_ArrayLen, Tryz.call180⟩
    · exact ⟨rd_CompactArrayLen, Tryz.call179⟩
  · intro f n ss h
    simp only [aR, List.mem_cons, Prod.mk.injEq, List.not_mem_nil, or_false] at h
    rcases h with ⟨rfl, rfl, rfl⟩ | ⟨rfl, rfl, rfl⟩ | ⟨rfl, rfl, rfl⟩ | ⟨rfl, rfl, rfl⟩ | ⟨rfl, rfl, rfl⟩ | ⟨rfl, rfl, rfl⟩ | ⟨rfl, rfl, rfl⟩ | ⟨rfl, rfl, rfl⟩ | ⟨rfl, rfl, rfl⟩ | ⟨rfl, rfl, rfl⟩ | ⟨rfl, rfl, rfl⟩ | ⟨rfl, rfl, rfl⟩ | ⟨rfl, rfl, rfl⟩ | ⟨rfl, rfl, rfl⟩ | ⟨rfl, rfl, rfl⟩ | ⟨rfl, rfl, rfl⟩ | ⟨rfl, rfl, rfl⟩ | ⟨rfl, rfl, rfl⟩ | ⟨rfl, rfl, rfl⟩ | ⟨rfl, rfl, rfl⟩ | ⟨rfl, rfl, rfl⟩ | ⟨rfl, rfl, rfl⟩ | ⟨rfl, rfl, rfl⟩ | ⟨rfl, rfl, rfl⟩ | ⟨rfl, rfl, rfl⟩ | ⟨rfl, rfl, rfl⟩ | ⟨rfl, rfl, rfl⟩ | ⟨rfl, rfl, rfl⟩ | ⟨rfl, rfl, rfl⟩ | ⟨rfl, rfl, rfl⟩ | ⟨rfl, rfl, rfl⟩
    · exact ⟨dc_112, Tryz.call112⟩
    · exact ⟨dc_135, Tryz.call135⟩
    · exact ⟨dc_138, Tryz.call138⟩
    · exact ⟨dc_143, Tryz.call143⟩
    · exact ⟨dc_148, Tryz.call148⟩
    · exact ⟨dc_151, Tryz.call151⟩
    · exact ⟨dc_154, Tryz.call154⟩
    · exact ⟨dc_156, Tryz.call156⟩
    · exact ⟨dc_159, Tryz.call159⟩
    · exact ⟨dc_162, Tryz.call162⟩
    · exact ⟨dc_183, Tryz.call183⟩
    · exact ⟨dc_185, Tryz.call185⟩
    · exact ⟨dc_186, Tryz.call186⟩
    · exact ⟨dc_189, Tryz.call189⟩
    · exact ⟨dc_196, Tryz.call196⟩
    · exact ⟨dc_201, Tryz.call201⟩
    · exact ⟨dc_202, Tryz.call202⟩
    · exact ⟨dc_203, Tryz.call203⟩
    · exact ⟨dc_204, Tryz.call204⟩
    · exact ⟨dc_206, Tryz.call206⟩
    · exact ⟨dc_207, Tryz.call207⟩
    · exact ⟨dc_208, Tryz.call208⟩
    · exact ⟨dc_209, Tryz.call209⟩
    · exact ⟨dc_211, Tryz.call211⟩
    · exact ⟨dc_212, Tryz.call212⟩
    · exact ⟨dc_213, Tryz.call213⟩
    · exact ⟨dc_214, Tryz.call214⟩
    · exact ⟨dc_215, Tryz.call215⟩
    · exact ⟨dc_216, Tryz.call216⟩
    · exact ⟨dc_217, Tryz.call217⟩
    · exact ⟨dc_218, Tryz.call218⟩
theorem rBuild (A : Option Addr) (n c : Nat) : Tryz.prog.built 215 [(0, .slice A n c)] = some #[.slice A n c, .bool false] := by kernel_rfl
theorem rInfo : Tryz.prog.info? 215 = some Tryz.t215 := by kernel_rfl
end Go.Proofs.YtkakokckdlkbpaaGreatDoor
