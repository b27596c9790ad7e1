/-
  The tables of the executors over this program, and that they fit.
-/
import Derived.Test.YtdkimjfdcioniaaDoorRK6
import Derived.Test.YtdkimjfdcioniaaDoorRK7
import Derived.Test.YtdkimjfdcioniaaDoorSpecS
import Derived.Test.YtdkimjfdcioniaaDoorRAgain
namespace Go.Proofs.YtdkimjfdcioniaaDoor
open Go Go.RowKit Go.Proofs.Eng
set_option maxRecDepth 20000
set_option maxHeartbeats 4000000

def nT : Tab :=
  ⟨[(7, [0, 1, 2, 3]), (8, [0, 1, 2, 3]), (13, [0, 1]), (14, [0, 1]), (18, [0]), (19, [0]), (60, [0]), (61, [0]), (62, [0, 1, 2, 3]), (63, [0, 1, 2, 3]), (69, [0, 1, 2]), (70, [0, 1, 2]), (73, [0, 1, 2]), (74, [0, 1, 2]), (81, [0, 1, 2, 3]), (82, [0, 1, 2, 3]), (86, [0, 1, 2, 3]), (87, [0, 1, 2, 3]), (90, [0, 1, 2, 3]), (91, [0, 1, 2, 3]), (95, [0, 1, 2, 3, 4, 5, 6, 7, 8, 9, 10, 11]), (96, [0, 1, 2, 3, 4, 5, 6, 7, 8, 9, 10, 11]), (101, [0, 16, 17]), (102, [0, 16, 17]), (109, [0, 1, 2, 3, 4, 5, 6, 7, 8]), (110, [0, 1, 2, 3, 4, 5, 6, 7, 8]), (113, [0, 1, 2, 3, 4]), (114, [0, 1, 2, 3, 4]), (117, [0, 1, 2, 3, 4, 5, 6]), (118, [0, 1, 2, 3, 4, 5, 6]), (121, [0, 1, 2]), (122, [0, 1, 2]), (124, [0, 1, 2, 3, 4]), (125, [0, 1, 2, 3, 4]), (128, [0, 1, 2, 3, 4]), (129, [0, 1, 2, 3, 4]), (131, [0, 1, 2]), (132, [0, 1, 2]), (134, [0, 1, 2, 3, 4, 5, 6, 7, 8, 9]), (135, [0, 1, 2, 3, 4, 5, 6, 7, 8, 9]), (137, [0, 1, 2]), (138, [0, 1, 2]), (141, [0, 1, 2, 3, 4, 5]), (142, [0, 1, 2, 3, 4, 5]), (145, [0, 1, 2]), (146, [0, 1, 2]), (148, [0, 1, 2, 3, 4]), (149, [0, 1, 2, 3, 4]), (151, [0, 1, 2, 3, 4, 5]), (152, [0, 1, 2, 3, 4, 5]), (155, [0, 1, 17, 18]), (156, [0, 1, 17, 18]), (158, [0, 1, 2]), (159, [0, 1, 2]), (160, [0, 1, 2, 3, 4, 5]), (161, [0, 1, 2, 3, 4, 5]), (162, [0, 1, 2, 3, 4]), (163, [0, 1, 2, 3, 4]), (164, [0, 1]), (165, [0, 1]), (205, [0, 1, 2]), (206, [0, 1, 2]), (212, [0, 1]), (213, [0, 1]), (214, [0]), (215, [0]), (235, [0, 1, 2, 3]), (236, [0, 1, 2, 3]), (246, [0, 1, 2, 3, 4, 5, 6, 7, 8, 9, 10]), (247, [0, 1, 2, 3, 4, 5, 6, 7, 8, 9, 10]), (249, [0, 1]), (250, [0, 1]), (251, [0]), (252, [0])],
  [(1, (1, false)), (2, (1, false)), (3, (1, false)), (4, (1, false)), (5, (1, false)), (6, (1, false)), (7, (4, true)), (8, (4, true)), (9, (1, false)), (10, (1, false)), (11, (1, false)), (12, (1, false)), (13, (2, true)), (14, (2, true)), (15, (1, false)), (16, (1, false)), (17, (1, false)), (18, (1, true)), (19, (1, true)), (20, (1, false)), (21, (1, false)), (22, (1, false)), (23, (1, false)), (25, (1, false)), (26, (1, false)), (27, (1, false)), (28, (1, false)), (29, (1, false)), (30, (1, false)), (31, (1, false)), (32, (1, false)), (33, (1, false)), (34, (1, false)), (35, (1, false)), (36, (1, false)), (37, (1, false)), (38, (1, false)), (39, (1, false)), (40, (1, false)), (41, (1, false)), (42, (1, false)), (43, (1, false)), (44, (1, false)), (45, (1, false)), (46, (1, false)), (47, (1, false)), (48, (1, false)), (49, (1, false)), (50, (1, false)), (51, (1, false)), (52, (1, false)), (53, (1, false)), (54, (1, false)), (55, (1, false)), (56, (1, false)), (57, (1, false)), (58, (1, false)), (59, (1, false)), (60, (1, true)), (61, (1, true)), (62, (4, true)), (63, (4, true)), (64, (1, false)), (65, (1, false)), (66, (1, false)), (67, (1, false)), (68, (1, false)), (69, (3, true)), (70, (3, true)), (71, (1, false)), (72, (1, false)), (73, (3, true)), (74, (3, true)), (75, (1, false)), (76, (1, false)), (77, (1, false)), (78, (1, false)), (79, (1, false)), (80, (1, false)), (81, (4, true)), (82, (4, true)), (83, (1, false)), (84, (1, false)), (85, (1, false)), (86, (4, true)), (87, (4, true)), (88, (1, false)), (89, (1, false)), (90, (4, true)), (91, (4, true)), (92, (1, false)), (93, (1, false)), (94, (1, false)), (95, (12, true)), (96, (12, true)), (97, (1, false)), (98, (1, false)), (99, (16, true)), (100, (1, false)), (101, (18, true)), (102, (18, true)), (103, (1, false)), (104, (1, false)), (105, (1, false)), (106, (1, false)), (107, (1, false)), (108, (1, false)), (109, (9, true)), (110, (9, true)), (111, (1, false)), (112, (1, false)), (113, (5, true)), (114, (5, true)), (115, (1, false)), (116, (1, false)), (117, (7, true)), (118, (7, true)), (119, (1, false)), (120, (1, false)), (121, (3, true)), (122, (3, true)), (123, (1, false)), (124, (5, true)), (125, (5, true)), (126, (1, false)), (127, (1, false)), (128, (5, true)), (129, (5, true)), (130, (1, false)), (131, (3, true)), (132, (3, true)), (133, (1, false)), (134, (10, true)), (135, (10, true)), (136, (1, false)), (137, (3, true)), (138, (3, true)), (139, (1, false)), (140, (1, false)), (141, (6, true)), (142, (6, true)), (143, (1, false)), (144, (1, false)), (145, (3, true)), (146, (3, true)), (147, (1, false)), (148, (5, true)), (149, (5, true)), (150, (1, false)), (151, (6, true)), (152, (6, true)), (153, (1, false)), (154, (1, false)), (155, (19, true)), (156, (19, true)), (157, (1, false)), (158, (3, true)), (159, (3, true)), (160, (6, true)), (161, (6, true)), (162, (5, true)), (163, (5, true)), (164, (2, true)), (165, (2, true)), (166, (1, false)), (167, (1, false)), (168, (1, false)), (169, (1, false)), (170, (1, false)), (171, (1, false)), (172, (1, false)), (173, (1, false)), (174, (1, false)), (175, (1, false)), (176, (1, false)), (177, (1, false)), (178, (1, false)), (179, (1, false)), (180, (1, false)), (181, (1, false)), (182, (1, false)), (183, (1, false)), (184, (1, false)), (185, (1, false)), (186, (1, false)), (187, (1, false)), (188, (1, false)), (189, (1, false)), (190, (1, false)), (191, (1, false)), (192, (1, false)), (193, (1, false)), (194, (1, false)), (195, (1, false)), (196, (0, true)), (197, (0, true)), (198, (1, false)), (199, (1, false)), (201, (1, false)), (202, (1, false)), (203, (1, false)), (204, (1, false)), (205, (3, true)), (206, (3, true)), (207, (1, false)), (208, (1, false)), (209, (1, false)), (210, (1, false)), (211, (1, false)), (212, (2, true)), (213, (2, true)), (214, (1, true)), (215, (1, true)), (216, (1, false)), (217, (1, false)), (218, (1, false)), (219, (1, false)), (221, (1, false)), (222, (1, false)), (223, (1, false)), (225, (1, false)), (226, (1, false)), (227, (1, false)), (228, (1, false)), (229, (1, false)), (230, (1, false)), (231, (1, false)), (233, (1, false)), (234, (1, false)), (235, (4, true)), (236, (4, true)), (237, (0, true)), (238, (0, true)), (239, (0, true)), (240, (1, false)), (241, (1, false)), (242, (1, false)), (243, (1, false)), (244, (1, false)), (245, (1, false)), (246, (11, true)), (247, (11, true)), (248, (1, false)), (249, (2, true)), (250, (2, true)), (251, (1, true)), (252, (1, true)), (253, (1, false))],
  [(22, 1), (58, 3), (67, 3), (68, 4), (85, 4), (93, 1), (94, 18), (100, 1), (112, 7), (116, 3), (120, 5), (127, 3), (133, 3), (140, 3), (144, 5), (150, 19), (154, 3), (193, 1)],
  [], [(2, .i64), (3, .i64), (5, .u8), (6, .u8), (12, .u64), (21, .i32), (29, .i16), (78, .u32), (104, .i8), (105, .i8), (106, .i8), (107, .i8), (108, .i8), (175, .u64), (180, .u64), (183, .u16), (204, .u64), (219, .i64), (226, .u64), (240, .u8), (241, .u8), (244, .i32), (245, .i32)], [99],
  [(105, .bool), (117, .i8), (109, .i16), (164, .u16), (108, .i32), (120, .i64), (104, .f64), (114, .uuid), (98, .str), (97, .cstr), (100, .nstr), (99, .cnstr), (126, .byt), (125, .cbyt), (132, .nbyt), (131, .cnbyt)], [(96, .al), (95, .cal), (113, .nal), (112, .cnal)], 101, 102, 103, 5, false⟩
theorem nTabOK : TabOK Tryd.prog nT := tabB_ok (by kernel_rfl)
theorem nConts : Conts Tryd.prog nT := by
  refine ⟨?_, ?_, ⟨AppendUvarint_any, Tryd.call101⟩, ⟨c_TagsLen, Tryd.call102⟩, ⟨c_AppendEach, Tryd.call103⟩⟩
  · intro f p h
    simp only [nT, List.mem_cons, Prod.mk.injEq, List.not_mem_nil, or_false] at h
    rcases h with ⟨rfl, rfl⟩ | ⟨rfl, rfl⟩ | ⟨rfl, rfl⟩ | ⟨rfl, rfl⟩ | ⟨rfl, rfl⟩ | ⟨rfl, rfl⟩ | ⟨rfl, rfl⟩ | ⟨rfl, rfl⟩ | ⟨rfl, rfl⟩ | ⟨rfl, rfl⟩ | ⟨rfl, rfl⟩ | ⟨rfl, rfl⟩ | ⟨rfl, rfl⟩ | ⟨rfl, rfl⟩ | ⟨rfl, rfl⟩ | ⟨rfl, rfl⟩
    · exact ⟨c_AppendBool, Tryd.call105⟩
    · exact ⟨c_AppendInt8, Tryd.call117⟩
    · exact ⟨c_AppendInt16, Tryd.call109⟩
    · exact ⟨c_AppendUint16, Tryd.call164⟩
    · exact ⟨c_AppendInt32, Tryd.call108⟩
    · exact ⟨c_AppendInt64, Tryd.call120⟩
    · exact ⟨c_AppendFloat64, Tryd.call104⟩
    · exact ⟨c_AppendUuid, Tryd.call114⟩
    · exact ⟨c_AppendString, Tryd.call98⟩
    · exact ⟨c_AppendCompactString, Tryd.call97⟩
    · exact ⟨c_AppendNullableString, Tryd.call100⟩
    · exact ⟨c_AppendCompactNullableString, Tryd.call99⟩
    · exact ⟨c_AppendBytes, Tryd.call126⟩
    · exact ⟨c_AppendCompactBytes, Tryd.call125⟩
    · exact ⟨c_AppendNullableBytes, Tryd.call132⟩
    · exact ⟨c_AppendCompactNullableBytes, Tryd.call131⟩
  · intro f p h
    simp only [nT, List.mem_cons, Prod.mk.injEq, List.not_mem_nil, or_false] at h
    rcases h with ⟨rfl, rfl⟩ | ⟨rfl, rfl⟩ | ⟨rfl, rfl⟩ | ⟨rfl, rfl⟩
    · exact ⟨c_AppendArrayLen, Tryd.call96⟩
    · exact ⟨c_AppendCompactArrayLen, Tryd.call95⟩
    · exact ⟨c_AppendNullableArrayLen, Tryd.call113⟩
    · exact ⟨c_AppendCompactNullableArrayLen, Tryd.call112⟩
/-! ## defaults -/
theorem dc_93 : DContract Tryd.prog 93 4 [] :=
  calls_default nTabOK (dt := []) (fun f n ss h => by cases h) Tryd.func93 rfl rfl rfl (m := 2000) (by kernel_rfl)
theorem dc_106 : DContract Tryd.prog 106 4 [] :=
  calls_default nTabOK (dt := []) (fun f n ss h => by cases h) Tryd.func106 rfl rfl rfl (m := 2000) (by kernel_rfl)
theorem dc_110 : DContract Tryd.prog 110 12 [(6, .int .i32 (-1))] :=
  calls_default nTabOK (dt := []) (fun f n ss h => by cases h) Tryd.func110 rfl rfl rfl (m := 2000) (by kernel_rfl)
theorem dc_115 : DContract Tryd.prog 115 9 [(3, .int .i8 3)] :=
  calls_default nTabOK (dt := []) (fun f n ss h => by cases h) Tryd.func115 rfl rfl rfl (m := 2000) (by kernel_rfl)
theorem dc_118 : DContract Tryd.prog 118 5 [] :=
  calls_default nTabOK (dt := []) (fun f n ss h => by cases h) Tryd.func118 rfl rfl rfl (m := 2000) (by kernel_rfl)
theorem dc_121 : DContract Tryd.prog 121 5 [(3, .int .i32 60000)] :=
  calls_default nTabOK (dt := []) (fun f n ss h => by cases h) Tryd.func121 rfl rfl rfl (m := 2000) (by kernel_rfl)
theorem dc_123 : DContract Tryd.prog 123 10 [(3, .int .i32 (-1))] :=
  calls_default nTabOK (dt := []) (fun f n ss h => by cases h) Tryd.func123 rfl rfl rfl (m := 2000) (by kernel_rfl)
theorem dc_127 : DContract Tryd.prog 127 6 [] :=
  calls_default nTabOK (dt := []) (fun f n ss h => by cases h) Tryd.func127 rfl rfl rfl (m := 2000) (by kernel_rfl)
theorem dc_129 : DContract Tryd.prog 129 6 [(3, .int .i32 15000)] :=
  calls_default nTabOK (dt := []) (fun f n ss h => by cases h) Tryd.func129 rfl rfl rfl (m := 2000) (by kernel_rfl)
theorem dc_133 : DContract Tryd.prog 133 6 [] :=
  calls_default nTabOK (dt := []) (fun f n ss h => by cases h) Tryd.func133 rfl rfl rfl (m := 2000) (by kernel_rfl)
theorem dc_135 : DContract Tryd.prog 135 5 [] :=
  calls_default nTabOK (dt := []) (fun f n ss h => by cases h) Tryd.func135 rfl rfl rfl (m := 2000) (by kernel_rfl)
theorem dc_141 : DContract Tryd.prog 141 3 [] :=
  calls_default nTabOK (dt := []) (fun f n ss h => by cases h) Tryd.func141 rfl rfl rfl (m := 2000) (by kernel_rfl)
theorem dc_142 : DContract Tryd.prog 142 3 [] :=
  calls_default nTabOK (dt := []) (fun f n ss h => by cases h) Tryd.func142 rfl rfl rfl (m := 2000) (by kernel_rfl)
theorem dc_152 : DContract Tryd.prog 152 4 [] :=
  calls_default nTabOK (dt := []) (fun f n ss h => by cases h) Tryd.func152 rfl rfl rfl (m := 2000) (by kernel_rfl)
theorem dc_161 : DContract Tryd.prog 161 4 [] :=
  calls_default nTabOK (dt := []) (fun f n ss h => by cases h) Tryd.func161 rfl rfl rfl (m := 2000) (by kernel_rfl)
theorem dc_165 : DContract Tryd.prog 165 18 [] :=
  calls_default nTabOK (dt := []) (fun f n ss h => by cases h) Tryd.func165 rfl rfl rfl (m := 2000) (by kernel_rfl)
theorem dc_168 : DContract Tryd.prog 168 7 [(3, .int .i64 (-1)), (4, .int .i64 (-1))] :=
  calls_default nTabOK (dt := []) (fun f n ss h => by cases h) Tryd.func168 rfl rfl rfl (m := 2000) (by kernel_rfl)
theorem dc_169 : DContract Tryd.prog 169 3 [] :=
  calls_default nTabOK (dt := []) (fun f n ss h => by cases h) Tryd.func169 rfl rfl rfl (m := 2000) (by kernel_rfl)
theorem dc_170 : DContract Tryd.prog 170 5 [] :=
  calls_default nTabOK (dt := []) (fun f n ss h => by cases h) Tryd.func170 rfl rfl rfl (m := 2000) (by kernel_rfl)
theorem dc_172 : DContract Tryd.prog 172 3 [] :=
  calls_default nTabOK (dt := []) (fun f n ss h => by cases h) Tryd.func172 rfl rfl rfl (m := 2000) (by kernel_rfl)
theorem dc_173 : DContract Tryd.prog 173 3 [] :=
  calls_default nTabOK (dt := []) (fun f n ss h => by cases h) Tryd.func173 rfl rfl rfl (m := 2000) (by kernel_rfl)
theorem dc_176 : DContract Tryd.prog 176 3 [] :=
  calls_default nTabOK (dt := []) (fun f n ss h => by cases h) Tryd.func176 rfl rfl rfl (m := 2000) (by kernel_rfl)
theorem dc_177 : DContract Tryd.prog 177 5 [] :=
  calls_default nTabOK (dt := []) (fun f n ss h => by cases h) Tryd.func177 rfl rfl rfl (m := 2000) (by kernel_rfl)
theorem dc_178 : DContract Tryd.prog 178 19 [] :=
  calls_default nTabOK (dt := []) (fun f n ss h => by cases h) Tryd.func178 rfl rfl rfl (m := 2000) (by kernel_rfl)
theorem dc_179 : DContract Tryd.prog 179 3 [] :=
  calls_default nTabOK (dt := []) (fun f n ss h => by cases h) Tryd.func179 rfl rfl rfl (m := 2000) (by kernel_rfl)
/-! ## reading -/
def aR : TabR :=
  ⟨[(154, .bool), (167, .i8), (162, .i16), (160, .i32), (171, .i64), (153, .f64), (166, .uuid), (146, .str), (145, .cstr), (150, .nstr), (148, .cnstr), (175, .byt), (174, .cbyt), (181, .nbyt), (180, .cnbyt)], [(138, false), (137, true)], 139, 140, 151,
  [(93, (4, [])), (106, (4, [])), (110, (12, [(6, .int .i32 (-1))])), (115, (9, [(3, .int .i8 3)])), (118, (5, [])), (121, (5, [(3, .int .i32 60000)])), (123, (10, [(3, .int .i32 (-1))])), (127, (6, [])), (129, (6, [(3, .int .i32 15000)])), (133, (6, [])), (135, (5, [])), (141, (3, [])), (142, (3, [])), (152, (4, [])), (161, (4, [])), (165, (18, [])), (168, (7, [(3, .int .i64 (-1)), (4, .int .i64 (-1))])), (169, (3, [])), (170, (5, [])), (172, (3, [])), (173, (3, [])), (176, (3, [])), (177, (5, [])), (178, (19, [])), (179, (3, []))],
  [(22, ([.int .u8], [.int .u8 0])),
   (58, ([.arr [.str, .pstr, .tags false], .arr [.str, .flt, .bool, .tags false], .tags false], [.slice none 0 0, .slice none 0 0, .map none])),
   (67, ([.str, .pstr, .tags false], [.string ByteArray.empty, .pointer none, .map none])),
   (68, ([.str, .flt, .bool, .tags false], [.string ByteArray.empty, .float .f64 0, .bool false, .map none])),
   (85, ([.str, .int .i16, .pstr, .tags false], [.string ByteArray.empty, .int .i16 0, .pointer none, .map none])),
   (93, ([.str], [.string ByteArray.empty])),
   (94, ([.int .u8, .int .u8, .int .u8, .int .u8, .int .u8, .int .u8, .int .u8, .int .u8, .int .u8, .int .u8, .int .u8, .int .u8, .int .u8, .int .u8, .int .u8, .int .u8, .arr [.int .i32], .tags false], [.int .u8 0, .int .u8 0, .int .u8 0, .int .u8 0, .int .u8 0, .int .u8 0, .int .u8 0, .int .u8 0, .int .u8 0, .int .u8 0, .int .u8 0, .int .u8 0, .int .u8 0, .int .u8 0, .int .u8 0, .int .u8 0, .slice none 0 0, .map none])),
   (100, ([.int .i32], [.int .i32 0])),
   (112, ([.int .i16, .str, .arr [.str, .arr [.int .i32, .int .i64, .int .i64, .bool, .tags false], .tags false], .int .i64, .int .i64, .bool, .tags false], [.int .i16 0, .string ByteArray.empty, .slice none 0 0, .int .i64 0, .int .i64 0, .bool false, .map none])),
   (116, ([.str, .arr [.int .i32, .int .i64, .int .i64, .bool, .tags false], .tags false], [.string ByteArray.empty, .slice none 0 0, .map none])),
   (120, ([.int .i32, .int .i64, .int .i64, .bool, .tags false], [.int .i32 0, .int .i64 0, .int .i64 0, .bool false, .map none])),
   (127, ([.str, .arr [.int .i32], .tags false], [.string ByteArray.empty, .slice none 0 0, .map none])),
   (133, ([.str, .bytes, .tags false], [.string ByteArray.empty, .slice none 0 0, .map none])),
   (140, ([.str, .arr [.int .i32, .arr [.int .i32], .arr [.int .i32], .arr [.int .i32], .tags false], .tags false], [.string ByteArray.empty, .slice none 0 0, .map none])),
   (144, ([.int .i32, .arr [.int .i32], .arr [.int .i32], .arr [.int .i32], .tags false], [.int .i32 0, .slice none 0 0, .slice none 0 0, .slice none 0 0, .map none])),
   (150, ([.str, .int .u8, .int .u8, .int .u8, .int .u8, .int .u8, .int .u8, .int .u8, .int .u8, .int .u8, .int .u8, .int .u8, .int .u8, .int .u8, .int .u8, .int .u8, .int .u8, .arr [.int .i32, .bytes, .tags false], .tags false], [.string ByteArray.empty, .int .u8 0, .int .u8 0, .int .u8 0, .int .u8 0, .int .u8 0, .int .u8 0, .int .u8 0, .int .u8 0, .int .u8 0, .int .u8 0, .int .u8 0, .int .u8 0, .int .u8 0, .int .u8 0, .int .u8 0, .int .u8 0, .slice none 0 0, .map none])),
   (154, ([.int .i32, .bytes, .tags false], [.int .i32 0, .slice none 0 0, .map none])),
   (193, ([.int .u32], [.int .u32 0]))]⟩
theorem aROK (E : Value) : TabROK Tryd.prog aR 165 0 E := by
  refine ⟨?_, ?_, ⟨rd_Ok, Tryd.call139⟩, ⟨rd_Complete _ E rfl, Tryd.call140⟩, ⟨rd_Tags, Tryd.call151⟩, ?_, elB_ok (by kernel_rfl)⟩
  · intro f p h
    simp only [aR, List.mem_cons, Prod.mk.injEq, List.not_mem_nil, or_false] at h
    rcases h with ⟨rfl, rfl⟩ | ⟨rfl, rfl⟩ | ⟨rfl, rfl⟩ | ⟨rfl, rfl⟩ | ⟨rfl, rfl⟩ | ⟨rfl, rfl⟩ | ⟨rfl, rfl⟩ | ⟨rfl, rfl⟩ | ⟨rfl, rfl⟩ | ⟨rfl, rfl⟩ | ⟨rfl, rfl⟩ | ⟨rfl, rfl⟩ | ⟨rfl, rfl⟩ | ⟨rfl, rfl⟩ | ⟨rfl, rfl⟩
    · exact ⟨rd_Bool, Tryd.call154⟩
    · exact ⟨rd_Int8, Tryd.call167⟩
    · exact ⟨rd_Int16, Tryd.call162⟩
    · exact ⟨rd_Int32, Tryd.call160⟩
    · exact ⟨rd_Int64, Tryd.call171⟩
    · exact ⟨rd_Float64, Tryd.call153⟩
    · exact ⟨rd_Uuid, Tryd.call166⟩
    · exact ⟨rd_String, Tryd.call146⟩
    · exact ⟨rd_CompactString, Tryd.call145⟩
    · exact ⟨rd_NullableString, Tryd.call150⟩
    · exact ⟨rd_CompactNullableString, Tryd.call148⟩
    · exact ⟨rd_Bytes, Tryd.call175⟩
    · exact ⟨rd_CompactBytes, Tryd.call174⟩
    · exact ⟨rd_NullableBytes, Tryd.call181⟩
    · exact ⟨rd_CompactNullableBytes, Tryd.call180⟩
  · intro f p h
    simp only [aR, List.mem_cons, Prod.mk.injEq, List.not_mem_nil, or_false] at h
    rcases h with ⟨rfl, rfl⟩ | ⟨rfl, rfl⟩
    · exact ⟨rd_ArrayLen, Tryd.call138⟩
    · exact ⟨rd_CompactArrayLen, Tryd.call137⟩
  · intro f n ss h
    simp only [aR, List.mem_cons, Prod.mk.injEq, List.not_mem_nil, or_false] at h
    rcases h with ⟨rfl, rfl, rfl⟩ | ⟨rfl, rfl, rfl⟩ | ⟨rfl, rfl, rfl⟩ | ⟨rfl, rfl, rfl⟩ | ⟨rfl, rfl, rfl⟩ | ⟨rfl, rfl, rfl⟩ | ⟨rfl, rfl, rfl⟩ | ⟨rfl, rfl, rfl⟩ | ⟨rfl, rfl, rfl⟩ | ⟨rfl, rfl, rfl⟩ | ⟨rfl, rfl, rfl⟩ | ⟨rfl, rfl, rfl⟩ | ⟨rfl, rfl, rfl⟩ | ⟨rfl, rfl, rfl⟩ | ⟨rfl, rfl, rfl⟩ | ⟨rfl, rfl, rfl⟩ | ⟨rfl, rfl, rfl⟩ | ⟨rfl, rfl, rfl⟩ | ⟨rfl, rfl, rfl⟩ | ⟨rfl, rfl, rfl⟩ | ⟨rfl, rfl, rfl⟩ | ⟨rfl, rfl, rfl⟩ | ⟨rfl, rfl, rfl⟩ | ⟨rfl, rfl, rfl⟩ | ⟨rfl, rfl, rfl⟩
    · exact ⟨dc_93, Tryd.call93⟩
    · exact ⟨dc_106, Tryd.call106⟩
    · exact ⟨dc_110, Tryd.call110⟩
    · exact ⟨dc_115, Tryd.call115⟩
    · exact ⟨dc_118, Tryd.call118⟩
    · exact ⟨dc_121, Tryd.call121⟩
    · exact ⟨dc_123, Tryd.call123⟩
    · exact ⟨dc_127, Tryd.call127⟩
    · exact ⟨dc_129, Tryd.call129⟩
    · exact ⟨dc_133, Tryd.call133⟩
    · exact ⟨dc_135, Tryd.call135⟩
    · exact ⟨dc_141, Tryd.call141⟩
    · exact ⟨dc_142, Tryd.call142⟩
    · exact ⟨dc_152, Tryd.call152⟩
    · exact ⟨dc_161, Tryd.call161⟩
    · exact ⟨dc_165, Tryd.call165⟩
    · exact ⟨dc_168, Tryd.call168⟩
    · exact ⟨dc_169, Tryd.call169⟩
    · exact ⟨dc_170, Tryd.call170⟩
    · exact ⟨dc_172, Tryd.call172⟩
    · exact ⟨dc_173, Tryd.call173⟩
    · exact ⟨dc_176, Tryd.call176⟩
    · exact ⟨dc_177, Tryd.call177⟩
    · exact ⟨dc_178, Tryd.call178⟩
    · exact ⟨dc_179, Tryd.call179⟩
theorem rBuild (A : Option Addr) (n c : Nat) : Tryd.prog.built 165 [(0, .slice A n c)] = some #[.slice A n c, .bool false] := by kernel_rfl
theorem rInfo : Tryd.prog.info? 165 = some Tryd.t165 := by kernel_rfl
end Go.Proofs.YtdkimjfdcioniaaDoor
