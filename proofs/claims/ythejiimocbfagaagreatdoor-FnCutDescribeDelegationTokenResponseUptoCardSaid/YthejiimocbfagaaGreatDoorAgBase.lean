/-
  The tables of the executors over this program, and that they fit.
-/
import Derived.Test.YthejiimocbfagaaGreatDoorRK6
import Derived.Test.YthejiimocbfagaaGreatDoorRK7
import Derived.Test.YthejiimocbfagaaGreatDoorSpecS
import Derived.Test.YthejiimocbfagaaGreatDoorRAgain
set_option linter.unusedVariables false
set_option linter.unusedSimpArgs false
namespace Go.Proofs.YthejiimocbfagaaGreatDoor
open Go Go.RowKit Go.Proofs.Eng
set_option maxRecDepth 20000
set_option maxHeartbeats 4000000

def nT : Tab :=
  ⟨[(7, [0, 1, 2, 3]), (8, [0, 1, 2, 3]), (13, [0, 1]), (14, [0, 1]), (18, [0]), (19, [0]), (25, [0, 1, 2, 3, 4]), (26, [0, 1, 2, 3, 4]), (32, [0, 1]), (33, [0, 1]), (45, [0, 1, 2, 3, 4, 5, 6, 7]), (46, [0, 1, 2, 3, 4, 5, 6, 7]), (72, [0, 1]), (73, [0, 1]), (78, [0]), (79, [0]), (80, [0, 1, 2, 3, 4, 5]), (81, [0, 1, 2, 3, 4, 5]), (96, [0, 1, 2]), (97, [0, 1, 2]), (103, [0, 1, 2, 3, 4]), (104, [0, 1, 2, 3, 4]), (108, [0, 1, 17, 18]), (109, [0, 1, 17, 18]), (112, [0, 1, 2, 3, 4, 5]), (113, [0, 1, 2, 3, 4, 5]), (117, [0, 1, 2, 3]), (118, [0, 1, 2, 3]), (121, [0, 1, 2]), (122, [0, 1, 2]), (124, [0, 1, 2]), (125, [0, 1, 2]), (127, [0, 1, 2, 3]), (128, [0, 1, 2, 3]), (131, [0, 16, 17]), (132, [0, 16, 17]), (134, [0, 1]), (135, [0, 1]), (137, [0, 1, 2, 3, 4]), (138, [0, 1, 2, 3, 4]), (140, [0, 1, 2, 3, 4]), (141, [0, 1, 2, 3, 4]), (143, [0, 1, 2, 3, 4, 5, 6]), (144, [0, 1, 2, 3, 4, 5, 6]), (145, [0, 1, 2, 3, 4, 5, 6, 7, 8, 9, 10, 11, 12]), (146, [0, 1, 2, 3, 4, 5, 6, 7, 8, 9, 10, 11, 12]), (149, [0, 1, 2, 3, 4, 20, 21, 22]), (150, [0, 1, 2, 3, 4, 20, 21, 22]), (152, [0, 1, 2, 3]), (153, [0, 1, 2, 3]), (156, [0, 1, 2, 3]), (157, [0, 1, 2, 3]), (160, [0, 16, 17]), (161, [0, 16, 17]), (164, [0, 1, 2, 3, 4, 5, 6]), (165, [0, 1, 2, 3, 4, 5, 6]), (168, [0, 1, 2, 3, 4]), (169, [0, 1, 2, 3, 4]), (172, [0, 1, 2, 3, 4]), (173, [0, 1, 2, 3, 4]), (176, [0, 1, 2, 3, 4, 5, 6, 7, 8, 9, 10]), (177, [0, 1, 2, 3, 4, 5, 6, 7, 8, 9, 10]), (179, [0, 1, 2]), (180, [0, 1, 2]), (189, [0, 1]), (190, [0, 1]), (223, [0, 1, 2]), (224, [0, 1, 2]), (230, [0, 1]), (231, [0, 1]), (233, [0]), (234, [0]), (254, [0, 1, 2, 3]), (255, [0, 1, 2, 3]), (265, [0, 1, 2, 3, 4, 5, 6, 7, 8, 9, 10]), (266, [0, 1, 2, 3, 4, 5, 6, 7, 8, 9, 10]), (268, [0, 1]), (269, [0, 1]), (270, [0]), (271, [0])],
  [(1, (1, false)), (2, (1, false)), (3, (1, false)), (4, (1, false)), (5, (1, false)), (6, (1, false)), (7, (4, true)), (8, (4, true)), (9, (1, false)), (10, (1, false)), (11, (1, false)), (12, (1, false)), (13, (2, true)), (14, (2, true)), (15, (1, false)), (16, (1, false)), (17, (1, false)), (18, (1, true)), (19, (1, true)), (20, (1, false)), (21, (1, false)), (22, (1, false)), (23, (1, false)), (24, (1, false)), (25, (5, true)), (26, (5, true)), (27, (1, false)), (28, (1, false)), (29, (1, false)), (30, (1, false)), (31, (1, false)), (32, (2, true)), (33, (2, true)), (34, (1, false)), (35, (1, false)), (37, (1, false)), (38, (1, false)), (39, (1, false)), (40, (1, false)), (41, (1, false)), (42, (1, false)), (43, (1, false)), (44, (1, false)), (45, (8, true)), (46, (8, true)), (47, (1, false)), (48, (1, false)), (49, (1, false)), (50, (1, false)), (51, (1, false)), (52, (1, false)), (53, (1, false)), (54, (1, false)), (55, (1, false)), (56, (1, false)), (57, (1, false)), (58, (1, false)), (59, (1, false)), (60, (1, false)), (61, (1, false)), (62, (1, false)), (63, (1, false)), (64, (1, false)), (65, (1, false)), (66, (1, false)), (67, (1, false)), (68, (1, false)), (69, (1, false)), (70, (1, false)), (71, (1, false)), (72, (2, true)), (73, (2, true)), (74, (1, false)), (75, (1, false)), (76, (1, false)), (77, (1, false)), (78, (1, true)), (79, (1, true)), (80, (6, true)), (81, (6, true)), (82, (1, false)), (83, (1, false)), (84, (1, false)), (85, (1, false)), (86, (1, false)), (87, (1, false)), (88, (1, false)), (89, (1, false)), (90, (1, false)), (91, (1, false)), (92, (1, false)), (93, (1, false)), (94, (1, false)), (95, (1, false)), (96, (3, true)), (97, (3, true)), (98, (1, false)), (99, (1, false)), (100, (1, false)), (101, (1, false)), (102, (1, false)), (103, (5, true)), (104, (5, true)), (105, (1, false)), (106, (1, false)), (107, (16, true)), (108, (19, true)), (109, (19, true)), (110, (1, false)), (111, (1, false)), (112, (6, true)), (113, (6, true)), (114, (1, false)), (115, (1, false)), (116, (1, false)), (117, (4, true)), (118, (4, true)), (119, (1, false)), (120, (1, false)), (121, (3, true)), (122, (3, true)), (123, (1, false)), (124, (3, true)), (125, (3, true)), (126, (1, false)), (127, (4, true)), (128, (4, true)), (129, (1, false)), (130, (1, false)), (131, (18, true)), (132, (18, true)), (133, (1, false)), (134, (2, true)), (135, (2, true)), (136, (1, false)), (137, (5, true)), (138, (5, true)), (139, (1, false)), (140, (5, true)), (141, (5, true)), (142, (1, false)), (143, (7, true)), (144, (7, true)), (145, (13, true)), (146, (13, true)), (147, (1, false)), (148, (1, false)), (149, (23, true)), (150, (23, true)), (151, (1, false)), (152, (4, true)), (153, (4, true)), (154, (1, false)), (155, (1, false)), (156, (4, true)), (157, (4, true)), (158, (1, false)), (159, (1, false)), (160, (18, true)), (161, (18, true)), (162, (1, false)), (163, (1, false)), (164, (7, true)), (165, (7, true)), (166, (1, false)), (167, (1, false)), (168, (5, true)), (169, (5, true)), (170, (1, false)), (171, (1, false)), (172, (5, true)), (173, (5, true)), (174, (1, false)), (175, (1, false)), (176, (11, true)), (177, (11, true)), (178, (1, false)), (179, (3, true)), (180, (3, true)), (181, (1, false)), (182, (1, false)), (183, (1, false)), (184, (1, false)), (185, (1, false)), (186, (1, false)), (187, (1, false)), (188, (1, false)), (189, (2, true)), (190, (2, true)), (191, (1, false)), (192, (1, false)), (193, (1, false)), (194, (1, false)), (195, (1, false)), (196, (1, false)), (197, (1, false)), (198, (1, false)), (199, (1, false)), (200, (1, false)), (201, (1, false)), (202, (1, false)), (203, (1, false)), (204, (1, false)), (205, (1, false)), (206, (1, false)), (207, (1, false)), (208, (1, false)), (209, (1, false)), (210, (1, false)), (211, (0, true)), (212, (0, true)), (213, (1, false)), (214, (1, false)), (215, (1, false)), (216, (1, false)), (217, (1, false)), (218, (1, false)), (220, (1, false)), (221, (1, false)), (222, (1, false)), (223, (3, true)), (224, (3, true)), (225, (1, false)), (226, (1, false)), (227, (1, false)), (228, (1, false)), (229, (1, false)), (230, (2, true)), (231, (2, true)), (232, (1, false)), (233, (1, true)), (234, (1, true)), (235, (1, false)), (236, (1, false)), (237, (1, false)), (238, (1, false)), (240, (1, false)), (241, (1, false)), (242, (1, false)), (244, (1, false)), (245, (1, false)), (246, (1, false)), (247, (1, false)), (248, (1, false)), (249, (1, false)), (250, (1, false)), (252, (1, false)), (253, (1, false)), (254, (4, true)), (255, (4, true)), (256, (0, true)), (257, (0, true)), (258, (0, true)), (259, (1, false)), (260, (1, false)), (261, (1, false)), (262, (1, false)), (263, (1, false)), (264, (1, false)), (265, (11, true)), (266, (11, true)), (267, (1, false)), (268, (2, true)), (269, (2, true)), (270, (1, true)), (271, (1, true)), (272, (1, false))],
  [(22, 1), (23, 5), (24, 2), (31, 8), (75, 3), (76, 5), (95, 1), (102, 19), (116, 3), (120, 3), (126, 18), (130, 2), (136, 5), (142, 1), (148, 4), (155, 18), (159, 7), (163, 5), (171, 11), (175, 3), (214, 1)],
  [], [(2, .i64), (3, .i64), (5, .u8), (6, .u8), (12, .u64), (21, .i32), (27, .u16), (40, .i16), (71, .u32), (88, .u64), (167, .i8), (188, .u64), (222, .u64), (238, .i64), (245, .u64), (259, .u8), (260, .u8), (263, .i32), (264, .i32)], [107],
  [(131, .bool), (156, .i8), (135, .i16), (152, .u16), (124, .i32), (134, .i64), (130, .uuid), (119, .str), (118, .cstr), (129, .nstr), (128, .cnstr), (149, .byt), (148, .cbyt)], [(123, .al), (122, .cal), (121, .nal), (120, .cnal)], 125, 126, 127, 5, false⟩
theorem nTabOK : TabOK Tryz.prog nT := tabB_ok (by kernel_rfl)
theorem nConts : Conts Tryz.prog nT := by
  refine ⟨?_, ?_, ⟨AppendUvarint_any, Tryz.call125⟩, ⟨c_TagsLen, Tryz.call126⟩, ⟨c_AppendEach, Tryz.call127⟩⟩
  · intro f p h
    simp only [nT, List.mem_cons, Prod.mk.injEq, List.not_mem_nil, or_false] at h
    rcases h with ⟨rfl, rfl⟩ | ⟨rfl, rfl⟩ | ⟨rfl, rfl⟩ | ⟨rfl, rfl⟩ | ⟨rfl, rfl⟩ | ⟨rfl, rfl⟩ | ⟨rfl, rfl⟩ | ⟨rfl, rfl⟩ | ⟨rfl, rfl⟩ | ⟨rfl, rfl⟩ | ⟨rfl, rfl⟩ | ⟨rfl, rfl⟩ | ⟨rfl, rfl⟩
    · exact ⟨c_AppendBool, Tryz.call131⟩
    · exact ⟨c_AppendInt8, Tryz.call156⟩
    · exact ⟨c_AppendInt16, Tryz.call135⟩
    · exact ⟨c_AppendUint16, Tryz.call152⟩
    · exact ⟨c_AppendInt32, Tryz.call124⟩
    · exact ⟨c_AppendInt64, Tryz.call134⟩
    · exact ⟨c_AppendUuid, Tryz.call130⟩
    · exact ⟨c_AppendString, Tryz.call119⟩
    · exact ⟨c_AppendCompactString, Tryz.call118⟩
    · exact ⟨c_AppendNullableString, Tryz.call129⟩
    · exact ⟨c_AppendCompactNullableString, Tryz.call128⟩
    · exact ⟨c_AppendBytes, Tryz.call149⟩
    · exact ⟨c_AppendCompactBytes, Tryz.call148⟩
  · intro f p h
    simp only [nT, List.mem_cons, Prod.mk.injEq, List.not_mem_nil, or_false] at h
    rcases h with ⟨rfl, rfl⟩ | ⟨rfl, rfl⟩ | ⟨rfl, rfl⟩ | ⟨rfl, rfl⟩
    · exact ⟨c_AppendArrayLen, Tryz.call123⟩
    · exact ⟨c_AppendCompactArrayLen, Tryz.call122⟩
    · exact ⟨c_AppendNullableArrayLen, Tryz.call121⟩
    · exact ⟨c_AppendCompactNullableArrayLen, Tryz.call120⟩
/-! ## defaults -/
theorem dc_107 : DContract Tryz.prog 107 6 [] :=
  calls_default nTabOK (dt := []) (fun f n ss h => by cases h) Tryz.func107 rfl rfl rfl (m := 2000) (by kernel_rfl)
theorem dc_132 : DContract Tryz.prog 132 6 [(3, .int .i64 (-1)), (4, .int .i16 (-1))] :=
  calls_default nTabOK (dt := []) (fun f n ss h => by cases h) Tryz.func132 rfl rfl rfl (m := 2000) (by kernel_rfl)
theorem dc_136 : DContract Tryz.prog 136 4 [] :=
  calls_default nTabOK (dt := []) (fun f n ss h => by cases h) Tryz.func136 rfl rfl rfl (m := 2000) (by kernel_rfl)
theorem dc_139 : DContract Tryz.prog 139 4 [] :=
  calls_default nTabOK (dt := []) (fun f n ss h => by cases h) Tryz.func139 rfl rfl rfl (m := 2000) (by kernel_rfl)
theorem dc_142 : DContract Tryz.prog 142 5 [] :=
  calls_default nTabOK (dt := []) (fun f n ss h => by cases h) Tryz.func142 rfl rfl rfl (m := 2000) (by kernel_rfl)
theorem dc_144 : DContract Tryz.prog 144 7 [] :=
  calls_default nTabOK (dt := []) (fun f n ss h => by cases h) Tryz.func144 rfl rfl rfl (m := 2000) (by kernel_rfl)
theorem dc_146 : DContract Tryz.prog 146 13 [] :=
  calls_default nTabOK (dt := []) (fun f n ss h => by cases h) Tryz.func146 rfl rfl rfl (m := 2000) (by kernel_rfl)
theorem dc_150 : DContract Tryz.prog 150 23 [(2, .int .i32 15000), (21, .bool true)] :=
  calls_default nTabOK (dt := []) (fun f n ss h => by cases h) Tryz.func150 rfl rfl rfl (m := 2000) (by kernel_rfl)
theorem dc_153 : DContract Tryz.prog 153 4 [] :=
  calls_default nTabOK (dt := []) (fun f n ss h => by cases h) Tryz.func153 rfl rfl rfl (m := 2000) (by kernel_rfl)
theorem dc_157 : DContract Tryz.prog 157 5 [] :=
  calls_default nTabOK (dt := []) (fun f n ss h => by cases h) Tryz.func157 rfl rfl rfl (m := 2000) (by kernel_rfl)
theorem dc_175 : DContract Tryz.prog 175 3 [] :=
  calls_default nTabOK (dt := []) (fun f n ss h => by cases h) Tryz.func175 rfl rfl rfl (m := 2000) (by kernel_rfl)
theorem dc_178 : DContract Tryz.prog 178 5 [(2, .int .i32 (-1))] :=
  calls_default nTabOK (dt := []) (fun f n ss h => by cases h) Tryz.func178 rfl rfl rfl (m := 2000) (by kernel_rfl)
theorem dc_183 : DContract Tryz.prog 183 19 [] :=
  calls_default nTabOK (dt := []) (fun f n ss h => by cases h) Tryz.func183 rfl rfl rfl (m := 2000) (by kernel_rfl)
theorem dc_193 : DContract Tryz.prog 193 3 [] :=
  calls_default nTabOK (dt := []) (fun f n ss h => by cases h) Tryz.func193 rfl rfl rfl (m := 2000) (by kernel_rfl)
theorem dc_194 : DContract Tryz.prog 194 3 [] :=
  calls_default nTabOK (dt := []) (fun f n ss h => by cases h) Tryz.func194 rfl rfl rfl (m := 2000) (by kernel_rfl)
theorem dc_195 : DContract Tryz.prog 195 18 [] :=
  calls_default nTabOK (dt := []) (fun f n ss h => by cases h) Tryz.func195 rfl rfl rfl (m := 2000) (by kernel_rfl)
theorem dc_196 : DContract Tryz.prog 196 2 [] :=
  calls_default nTabOK (dt := []) (fun f n ss h => by cases h) Tryz.func196 rfl rfl rfl (m := 2000) (by kernel_rfl)
theorem dc_197 : DContract Tryz.prog 197 5 [] :=
  calls_default nTabOK (dt := []) (fun f n ss h => by cases h) Tryz.func197 rfl rfl rfl (m := 2000) (by kernel_rfl)
theorem dc_200 : DContract Tryz.prog 200 4 [] :=
  calls_default nTabOK (dt := []) (fun f n ss h => by cases h) Tryz.func200 rfl rfl rfl (m := 2000) (by kernel_rfl)
theorem dc_203 : DContract Tryz.prog 203 18 [] :=
  calls_default nTabOK (dt := []) (fun f n ss h => by cases h) Tryz.func203 rfl rfl rfl (m := 2000) (by kernel_rfl)
theorem dc_204 : DContract Tryz.prog 204 7 [(4, .int .i32 (-1))] :=
  calls_default nTabOK (dt := []) (fun f n ss h => by cases h) Tryz.func204 rfl rfl rfl (m := 2000) (by kernel_rfl)
theorem dc_205 : DContract Tryz.prog 205 5 [] :=
  calls_default nTabOK (dt := []) (fun f n ss h => by cases h) Tryz.func205 rfl rfl rfl (m := 2000) (by kernel_rfl)
theorem dc_207 : DContract Tryz.prog 207 11 [] :=
  calls_default nTabOK (dt := []) (fun f n ss h => by cases h) Tryz.func207 rfl rfl rfl (m := 2000) (by kernel_rfl)
theorem dc_208 : DContract Tryz.prog 208 3 [] :=
  calls_default nTabOK (dt := []) (fun f n ss h => by cases h) Tryz.func208 rfl rfl rfl (m := 2000) (by kernel_rfl)
/-! ## reading -/
def aR : TabR :=
  ⟨[(185, .bool), (206, .i8), (191, .i16), (201, .u16), (176, .i32), (190, .i64), (184, .uuid), (170, .str), (169, .cstr), (182, .nstr), (180, .cnstr), (199, .byt), (198, .cbyt)], [(172, false), (171, true)], 173, 174, 177,
  [(107, (6, [])), (132, (6, [(3, .int .i64 (-1)), (4, .int .i16 (-1))])), (136, (4, [])), (139, (4, [])), (142, (5, [])), (144, (7, [])), (146, (13, [])), (150, (23, [(2, .int .i32 15000), (21, .bool true)])), (153, (4, [])), (157, (5, [])), (175, (3, [])), (178, (5, [(2, .int .i32 (-1))])), (183, (19, [])), (193, (3, [])), (194, (3, [])), (195, (18, [])), (196, (2, [])), (197, (5, [])), (200, (4, [])), (203, (18, [])), (204, (7, [(4, .int .i32 (-1))])), (205, (5, [])), (207, (11, [])), (208, (3, []))],
  [(22, ([.int .u8], [.int .u8 0])),
   (75, ([.str, .arr [.int .i32], .tags false], [.string ByteArray.empty, .slice none 0 0, .map none])),
   (76, ([.str, .pstr, .int .i32, .arr [.str, .int .u8, .int .u8, .int .u8, .int .u8, .int .u8, .int .u8, .int .u8, .int .u8, .int .u8, .int .u8, .int .u8, .int .u8, .int .u8, .int .u8, .int .u8, .int .u8, .arr [.int .i32], .tags false], .tags false], [.string ByteArray.empty, .pointer none, .int .i32 0, .slice none 0 0, .map none])),
   (95, ([.int .i32], [.int .i32 0])),
   (102, ([.str, .int .u8, .int .u8, .int .u8, .int .u8, .int .u8, .int .u8, .int .u8, .int .u8, .int .u8, .int .u8, .int .u8, .int .u8, .int .u8, .int .u8, .int .u8, .int .u8, .arr [.int .i32], .tags false], [.string ByteArray.empty, .int .u8 0, .int .u8 0, .int .u8 0, .int .u8 0, .int .u8 0, .int .u8 0, .int .u8 0, .int .u8 0, .int .u8 0, .int .u8 0, .int .u8 0, .int .u8 0, .int .u8 0, .int .u8 0, .int .u8 0, .int .u8 0, .slice none 0 0, .map none])),
   (116, ([.str, .arr [.int .i32, .int .i16, .tags false], .tags false], [.string ByteArray.empty, .slice none 0 0, .map none])),
   (120, ([.int .i32, .int .i16, .tags false], [.int .i32 0, .int .i16 0, .map none])),
   (126, ([.int .u8, .int .u8, .int .u8, .int .u8, .int .u8, .int .u8, .int .u8, .int .u8, .int .u8, .int .u8, .int .u8, .int .u8, .int .u8, .int .u8, .int .u8, .int .u8, .arr [.int .i32, .tags false], .tags false], [.int .u8 0, .int .u8 0, .int .u8 0, .int .u8 0, .int .u8 0, .int .u8 0, .int .u8 0, .int .u8 0, .int .u8 0, .int .u8 0, .int .u8 0, .int .u8 0, .int .u8 0, .int .u8 0, .int .u8 0, .int .u8 0, .slice none 0 0, .map none])),
   (130, ([.int .i32, .tags false], [.int .i32 0, .map none])),
   (136, ([.str, .str, .str, .str, .tags false], [.string ByteArray.empty, .string ByteArray.empty, .string ByteArray.empty, .string ByteArray.empty, .map none])),
   (142, ([.str], [.string ByteArray.empty])),
   (148, ([.str, .str, .int .u16, .tags false], [.string ByteArray.empty, .string ByteArray.empty, .int .u16 0, .map none])),
   (155, ([.int .u8, .int .u8, .int .u8, .int .u8, .int .u8, .int .u8, .int .u8, .int .u8, .int .u8, .int .u8, .int .u8, .int .u8, .int .u8, .int .u8, .int .u8, .int .u8, .arr [.int .i32, .int .i32, .int .i32, .int .i64, .int .i32, .arr [.int .i64, .int .i64, .int .i8, .int .i16, .tags false], .tags false], .tags false], [.int .u8 0, .int .u8 0, .int .u8 0, .int .u8 0, .int .u8 0, .int .u8 0, .int .u8 0, .int .u8 0, .int .u8 0, .int .u8 0, .int .u8 0, .int .u8 0, .int .u8 0, .int .u8 0, .int .u8 0, .int .u8 0, .slice none 0 0, .map none])),
   (159, ([.int .i32, .int .i32, .int .i32, .int .i64, .int .i32, .arr [.int .i64, .int .i64, .int .i8, .int .i16, .tags false], .tags false], [.int .i32 0, .int .i32 0, .int .i32 0, .int .i64 0, .int .i32 0, .slice none 0 0, .map none])),
   (163, ([.int .i64, .int .i64, .int .i8, .int .i16, .tags false], [.int .i64 0, .int .i64 0, .int .i8 0, .int .i16 0, .map none])),
   (171, ([.str, .str, .str, .str, .int .i64, .int .i64, .int .i64, .str, .bytes, .arr [.str, .str, .tags false], .tags false], [.string ByteArray.empty, .string ByteArray.empty, .string ByteArray.empty, .string ByteArray.empty, .int .i64 0, .int .i64 0, .int .i64 0, .string ByteArray.empty, .slice none 0 0, .slice none 0 0, .map none])),
   (175, ([.str, .str, .tags false], [.string ByteArray.empty, .string ByteArray.empty, .map none])),
   (214, ([.int .u32], [.int .u32 0]))]⟩
theorem aROK (E : Value) : TabROK Tryz.prog aR 190 0 E := by
  refine ⟨?_, ?_, ⟨rd_Ok, Tryz.call173⟩, ⟨rd_Complete _ E rfl, Tryz.call174⟩, ⟨rd_Tags, Tryz.call177⟩, ?_, elB_ok (by kernel_rfl)⟩
  · intro f p h
    simp only [aR, List.mem_cons, Prod.mk.injEq, List.not_mem_nil, or_false] at h
    rcases h with ⟨rfl, rfl⟩ | ⟨rfl, rfl⟩ | ⟨rfl, rfl⟩ | ⟨rfl, rfl⟩ | ⟨rfl, rfl⟩ | ⟨rfl, rfl⟩ | ⟨rfl, rfl⟩ | ⟨rfl, rfl⟩ | ⟨rfl, rfl⟩ | ⟨rfl, rfl⟩ | ⟨rfl, rfl⟩ | ⟨rfl, rfl⟩ | ⟨rfl, rfl⟩
    · exact ⟨rd_Bool, Tryz.call185⟩
    · exact ⟨rd_Int8, Tryz.call206⟩
    · exact ⟨rd_Int16, Tryz.call191⟩
    · exact ⟨rd_Uint16, Tryz.call201⟩
    · exact ⟨rd_Int32, Tryz.call176⟩
    · exact ⟨rd_Int64, Tryz.call190⟩
    · exact ⟨rd_Uuid, Tryz.call184⟩
    · exact ⟨rd_String, Tryz.call170⟩
    · exact ⟨rd_CompactString, Tryz.call169⟩
    · exact ⟨rd_NullableString, Tryz.call182⟩
    · exact ⟨rd_CompactNullableString, Tryz.call180⟩
    · exact ⟨rd_Bytes, Tryz.call199⟩
    · exact ⟨rd_CompactBytes, Tryz.call198⟩
  · intro f p h
    simp only [aR, List.mem_cons, Prod.mk.injEq, List.not_mem_nil, or_false] at h
    rcases h with ⟨rfl, rfl⟩ | ⟨rfl, rfl⟩
    · exact ⟨rd_ArrayLen, Tryz.call172⟩
    · exact ⟨rd_CompactArrayLen, Tryz.call171⟩
  · intro f n ss h
    simp only [aR, List.mem_cons, Prod.mk.injEq, List.not_mem_nil, or_false] at h
    rcases h with ⟨rfl, rfl, rfl⟩ | ⟨rfl, rfl, rfl⟩ | ⟨rfl, rfl, rfl⟩ | ⟨rfl, rfl, rfl⟩ | ⟨rfl, rfl, rfl⟩ | ⟨rfl, rfl, rfl⟩ | ⟨rfl, rfl, rfl⟩ | ⟨rfl, rfl, rfl⟩ | ⟨rfl, rfl, rfl⟩ | ⟨rfl, rfl, rfl⟩ | ⟨rfl, rfl, rfl⟩ | ⟨rfl, rfl, rfl⟩ | ⟨rfl, rfl, rfl⟩ | ⟨rfl, rfl, rfl⟩ | ⟨rfl, rfl, rfl⟩ | ⟨rfl, rfl, rfl⟩ | ⟨rfl, rfl, rfl⟩ | ⟨rfl, rfl, rfl⟩ | ⟨rfl, rfl, rfl⟩ | ⟨rfl, rfl, rfl⟩ | ⟨rfl, rfl, rfl⟩ | ⟨rfl, rfl, rfl⟩ | ⟨rfl, rfl, rfl⟩ | ⟨rfl, rfl, rfl⟩
    · exact ⟨dc_107, Tryz.call107⟩
    · exact ⟨dc_132, Tryz.call132⟩
    · exact ⟨dc_136, Tryz.call136⟩
    · exact ⟨dc_139, Tryz.call139⟩
    · exact ⟨dc_142, Tryz.call142⟩
    · exact ⟨dc_144, Tryz.call144⟩
    · exact ⟨dc_146, Tryz.call146⟩
    · exact ⟨dc_150, Tryz.call150⟩
    · exact ⟨dc_153, Tryz.call153⟩
    · exact ⟨dc_157, Tryz.call157⟩
    · exact ⟨dc_175, Tryz.call175⟩
    · exact ⟨dc_178, Tryz.call178⟩
    · exact ⟨dc_183, Tryz.call183⟩
    · exact ⟨dc_193, Tryz.call193⟩
    · exact ⟨dc_194, Tryz.call194⟩
    · exact ⟨dc_195, Tryz.call195⟩
    · exact ⟨dc_196, Tryz.call196⟩
    · exact ⟨dc_197, Tryz.call197⟩
    · exact ⟨dc_200, Tryz.call200⟩
    · exact ⟨dc_203, Tryz.call203⟩
    · exact ⟨dc_204, Tryz.call204⟩
    · exact ⟨dc_205, Tryz.call205⟩
    · exact ⟨dc_207, Tryz.call207⟩
    · exact ⟨dc_208, Tryz.call208⟩
theorem rBuild (A : Option Addr) (n c : Nat) : Tryz.prog.built 190 [(0, .slice A n c)] = some #[.slice A n c, .bool false] := by kernel_rfl
theorem rInfo : Tryz.prog.info? 190 = some Tryz.t190 := by kernel_rfl
end Go.Proofs.YthejiimocbfagaaGreatDoor
