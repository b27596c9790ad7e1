/-
  The tables of the executors over this program, and that they fit.
-/
import Derived.Test.YtobeonhmomiaaaaDoorRK6
import Derived.Test.YtobeonhmomiaaaaDoorRK7
import Derived.Test.YtobeonhmomiaaaaDoorSpecS
import Derived.Test.YtobeonhmomiaaaaDoorRAgain
set_option linter.unusedVariables false
set_option linter.unusedSimpArgs false
namespace Go.Proofs.YtobeonhmomiaaaaDoor
open Go Go.RowKit Go.Proofs.Eng
set_option maxRecDepth 20000
set_option maxHeartbeats 4000000

def nT : Tab :=
  ⟨[(7, [0, 1, 2, 3]), (8, [0, 1, 2, 3]), (13, [0, 1]), (14, [0, 1]), (18, [0]), (19, [0]), (25, [0, 1, 2, 3, 4]), (26, [0, 1, 2, 3, 4]), (30, [0, 1]), (31, [0, 1]), (46, [0, 1, 2, 3, 4, 5, 6, 7]), (47, [0, 1, 2, 3, 4, 5, 6, 7]), (49, [0, 1, 2, 3]), (50, [0, 1, 2, 3]), (64, [0]), (65, [0]), (66, [0, 1, 2, 3, 4]), (67, [0, 1, 2, 3, 4]), (70, [0, 1, 2, 3, 4]), (71, [0, 1, 2, 3, 4]), (77, [0, 1]), (78, [0, 1]), (88, [0, 1, 2, 3, 4, 5]), (89, [0, 1, 2, 3, 4, 5]), (94, [0, 1, 2]), (95, [0, 1, 2]), (97, [0, 1, 2]), (98, [0, 1, 2]), (99, [0, 1, 2]), (100, [0, 1, 2]), (101, [0, 1, 2, 5, 8, 9, 10, 11]), (102, [0, 1, 2, 5, 8, 9, 10, 11]), (109, [0, 1, 2, 3]), (110, [0, 1, 2, 3]), (112, [0, 1, 2, 3, 4, 5]), (113, [0, 1, 2, 3, 4, 5]), (127, [0, 1, 17]), (128, [0, 1, 17]), (131, [0, 1, 2, 3]), (132, [0, 1, 2, 3]), (136, [0, 1, 17, 18, 19, 20, 21, 22, 23]), (137, [0, 1, 17, 18, 19, 20, 21, 22, 23]), (142, [0, 1, 2, 3, 4, 5]), (143, [0, 1, 2, 3, 4, 5]), (145, [0, 1]), (146, [0, 1]), (187, [0, 1, 2]), (188, [0, 1, 2]), (194, [0, 1]), (195, [0, 1]), (196, [0]), (197, [0]), (217, [0, 1, 2, 3]), (218, [0, 1, 2, 3]), (228, [0, 1, 2, 3, 4, 5, 6, 7, 8, 9, 10]), (229, [0, 1, 2, 3, 4, 5, 6, 7, 8, 9, 10]), (230, [0, 1]), (231, [0, 1]), (232, [0]), (233, [0])],
  [(1, (1, false)), (2, (1, false)), (3, (1, false)), (4, (1, false)), (5, (1, false)), (6, (1, false)), (7, (4, true)), (8, (4, true)), (9, (1, false)), (10, (1, false)), (11, (1, false)), (12, (1, false)), (13, (2, true)), (14, (2, true)), (15, (1, false)), (16, (1, false)), (17, (1, false)), (18, (1, true)), (19, (1, true)), (20, (1, false)), (21, (1, false)), (22, (1, false)), (23, (1, false)), (24, (1, false)), (25, (5, true)), (26, (5, true)), (27, (1, false)), (28, (1, false)), (29, (1, false)), (30, (2, true)), (31, (2, true)), (32, (1, false)), (34, (1, false)), (35, (1, false)), (36, (1, false)), (37, (1, false)), (38, (1, false)), (39, (1, false)), (40, (1, false)), (41, (1, false)), (42, (1, false)), (43, (1, false)), (44, (1, false)), (45, (1, false)), (46, (8, true)), (47, (8, true)), (48, (1, false)), (49, (4, true)), (50, (4, true)), (51, (1, false)), (52, (1, false)), (53, (1, false)), (54, (1, false)), (55, (1, false)), (56, (1, false)), (57, (1, false)), (58, (1, false)), (59, (1, false)), (60, (1, false)), (61, (1, false)), (62, (1, false)), (63, (1, false)), (64, (1, true)), (65, (1, true)), (66, (5, true)), (67, (5, true)), (68, (1, false)), (69, (1, false)), (70, (5, true)), (71, (5, true)), (72, (1, false)), (73, (1, false)), (74, (1, false)), (75, (1, false)), (76, (1, false)), (77, (2, true)), (78, (2, true)), (79, (1, false)), (80, (1, false)), (81, (1, false)), (82, (1, false)), (83, (1, false)), (84, (1, false)), (85, (1, false)), (86, (1, false)), (87, (1, false)), (88, (6, true)), (89, (6, true)), (90, (1, false)), (91, (1, false)), (92, (1, false)), (93, (1, false)), (94, (3, true)), (95, (3, true)), (96, (1, false)), (97, (3, true)), (98, (3, true)), (99, (3, true)), (100, (3, true)), (101, (12, true)), (102, (12, true)), (103, (1, false)), (104, (1, false)), (105, (1, false)), (106, (1, false)), (107, (1, false)), (108, (1, false)), (109, (4, true)), (110, (4, true)), (111, (1, false)), (112, (6, true)), (113, (6, true)), (114, (1, false)), (115, (1, false)), (116, (1, false)), (117, (1, false)), (118, (1, false)), (119, (1, false)), (120, (1, false)), (121, (1, false)), (122, (1, false)), (123, (1, false)), (124, (1, false)), (125, (1, false)), (126, (16, true)), (127, (18, true)), (128, (18, true)), (129, (1, false)), (130, (1, false)), (131, (4, true)), (132, (4, true)), (133, (1, false)), (134, (1, false)), (135, (1, false)), (136, (24, true)), (137, (24, true)), (138, (1, false)), (139, (1, false)), (140, (1, false)), (141, (1, false)), (142, (6, true)), (143, (6, true)), (144, (1, false)), (145, (2, true)), (146, (2, true)), (147, (1, false)), (148, (1, false)), (149, (1, false)), (150, (1, false)), (151, (1, false)), (152, (1, false)), (153, (1, false)), (154, (1, false)), (155, (1, false)), (156, (1, false)), (157, (1, false)), (158, (1, false)), (159, (1, false)), (160, (1, false)), (161, (1, false)), (162, (1, false)), (163, (1, false)), (164, (1, false)), (165, (1, false)), (166, (1, false)), (167, (1, false)), (168, (1, false)), (169, (1, false)), (170, (1, false)), (171, (1, false)), (172, (1, false)), (173, (1, false)), (174, (0, true)), (175, (0, true)), (176, (1, false)), (177, (1, false)), (178, (1, false)), (179, (1, false)), (181, (1, false)), (182, (1, false)), (183, (1, false)), (184, (1, false)), (185, (1, false)), (186, (1, false)), (187, (3, true)), (188, (3, true)), (189, (1, false)), (190, (1, false)), (191, (1, false)), (192, (1, false)), (193, (1, false)), (194, (2, true)), (195, (2, true)), (196, (1, true)), (197, (1, true)), (198, (1, false)), (199, (1, false)), (200, (1, false)), (201, (1, false)), (203, (1, false)), (204, (1, false)), (205, (1, false)), (207, (1, false)), (208, (1, false)), (209, (1, false)), (210, (1, false)), (211, (1, false)), (212, (1, false)), (213, (1, false)), (215, (1, false)), (216, (1, false)), (217, (4, true)), (218, (4, true)), (219, (0, true)), (220, (0, true)), (221, (0, true)), (222, (1, false)), (223, (1, false)), (224, (1, false)), (225, (1, false)), (226, (1, false)), (227, (1, false)), (228, (11, true)), (229, (11, true)), (230, (2, true)), (231, (2, true)), (232, (1, true)), (233, (1, true)), (234, (1, false))],
  [(22, 1), (23, 5), (24, 2), (29, 8), (69, 18), (86, 3), (87, 4), (93, 12), (105, 1), (130, 24), (135, 6)],
  [], [(2, .i64), (3, .i64), (5, .u8), (6, .u8), (12, .u64), (21, .i32), (41, .u16), (48, .i16), (76, .u32), (120, .u64), (141, .i8), (162, .u64), (186, .u64), (201, .i64), (208, .u64), (222, .u8), (223, .u8), (226, .i32), (227, .i32)], [126],
  [(89, .bool), (99, .i8), (58, .i16), (76, .u16), (64, .i32), (60, .i64), (92, .uuid), (59, .str), (67, .cstr), (96, .nstr), (95, .cnstr), (72, .byt), (71, .cbyt), (61, .nbyt)], [(66, .al), (65, .cal), (98, .nal), (97, .cnal)], 68, 69, 70, 5, false⟩
theorem nTabOK : TabOK Tryd.prog nT := tabB_ok (by kernel_rfl)
theorem nConts : Conts Tryd.prog nT := by
  refine ⟨?_, ?_, ⟨AppendUvarint_any, Tryd.call68⟩, ⟨c_TagsLen, Tryd.call69⟩, ⟨c_AppendEach, Tryd.call70⟩⟩
  · intro f p h
    simp only [nT, List.mem_cons, Prod.mk.injEq, List.not_mem_nil, or_false] at h
    rcases h with ⟨rfl, rfl⟩ | ⟨rfl, rfl⟩ | ⟨rfl, rfl⟩ | ⟨rfl, rfl⟩ | ⟨rfl, rfl⟩ | ⟨rfl, rfl⟩ | ⟨rfl, rfl⟩ | ⟨rfl, rfl⟩ | ⟨rfl, rfl⟩ | ⟨rfl, rfl⟩ | ⟨rfl, rfl⟩ | ⟨rfl, rfl⟩ | ⟨rfl, rfl⟩ | ⟨rfl, rfl⟩
    · exact ⟨c_AppendBool, Tryd.call89⟩
    · exact ⟨c_AppendInt8, Tryd.call99⟩
    · exact ⟨c_AppendInt16, Tryd.call58⟩
    · exact ⟨c_AppendUint16, Tryd.call76⟩
    · exact ⟨c_AppendInt32, Tryd.call64⟩
    · exact ⟨c_AppendInt64, Tryd.call60⟩
    · exact ⟨c_AppendUuid, Tryd.call92⟩
    · exact ⟨c_AppendString, Tryd.call59⟩
    · exact ⟨c_AppendCompactString, Tryd.call67⟩
    · exact ⟨c_AppendNullableString, Tryd.call96⟩
    · exact ⟨c_AppendCompactNullableString, Tryd.call95⟩
    · exact ⟨c_AppendBytes, Tryd.call72⟩
    · exact ⟨c_AppendCompactBytes, Tryd.call71⟩
    · exact ⟨c_AppendNullableBytes, Tryd.call61⟩
  · intro f p h
    simp only [nT, List.mem_cons, Prod.mk.injEq, List.not_mem_nil, or_false] at h
    rcases h with ⟨rfl, rfl⟩ | ⟨rfl, rfl⟩ | ⟨rfl, rfl⟩ | ⟨rfl, rfl⟩
    · exact ⟨c_AppendArrayLen, Tryd.call66⟩
    · exact ⟨c_AppendCompactArrayLen, Tryd.call65⟩
    · exact ⟨c_AppendNullableArrayLen, Tryd.call98⟩
    · exact ⟨c_AppendCompactNullableArrayLen, Tryd.call97⟩
/-! ## defaults -/
theorem dc_56 : DContract Tryd.prog 56 4 [] :=
  calls_default nTabOK (dt := []) (fun f n ss h => by cases h) Tryd.func56 rfl rfl rfl (m := 2000) (by kernel_rfl)
theorem dc_62 : DContract Tryd.prog 62 6 [] :=
  calls_default nTabOK (dt := []) (fun f n ss h => by cases h) Tryd.func62 rfl rfl rfl (m := 2000) (by kernel_rfl)
theorem dc_75 : DContract Tryd.prog 75 3 [] :=
  calls_default nTabOK (dt := []) (fun f n ss h => by cases h) Tryd.func75 rfl rfl rfl (m := 2000) (by kernel_rfl)
theorem dc_77 : DContract Tryd.prog 77 6 [(3, .int .i64 (-1)), (4, .int .i16 (-1))] :=
  calls_default nTabOK (dt := []) (fun f n ss h => by cases h) Tryd.func77 rfl rfl rfl (m := 2000) (by kernel_rfl)
theorem dc_87 : DContract Tryd.prog 87 5 [] :=
  calls_default nTabOK (dt := []) (fun f n ss h => by cases h) Tryd.func87 rfl rfl rfl (m := 2000) (by kernel_rfl)
theorem dc_90 : DContract Tryd.prog 90 5 [] :=
  calls_default nTabOK (dt := []) (fun f n ss h => by cases h) Tryd.func90 rfl rfl rfl (m := 2000) (by kernel_rfl)
theorem dc_93 : DContract Tryd.prog 93 4 [] :=
  calls_default nTabOK (dt := []) (fun f n ss h => by cases h) Tryd.func93 rfl rfl rfl (m := 2000) (by kernel_rfl)
theorem dc_111 : DContract Tryd.prog 111 3 [] :=
  calls_default nTabOK (dt := []) (fun f n ss h => by cases h) Tryd.func111 rfl rfl rfl (m := 2000) (by kernel_rfl)
theorem dc_114 : DContract Tryd.prog 114 12 [] :=
  calls_default nTabOK (dt := []) (fun f n ss h => by cases h) Tryd.func114 rfl rfl rfl (m := 2000) (by kernel_rfl)
theorem dc_115 : DContract Tryd.prog 115 3 [] :=
  calls_default nTabOK (dt := []) (fun f n ss h => by cases h) Tryd.func115 rfl rfl rfl (m := 2000) (by kernel_rfl)
theorem dc_122 : DContract Tryd.prog 122 4 [] :=
  calls_default nTabOK (dt := []) (fun f n ss h => by cases h) Tryd.func122 rfl rfl rfl (m := 2000) (by kernel_rfl)
theorem dc_135 : DContract Tryd.prog 135 18 [] :=
  calls_default nTabOK (dt := []) (fun f n ss h => by cases h) Tryd.func135 rfl rfl rfl (m := 2000) (by kernel_rfl)
theorem dc_137 : DContract Tryd.prog 137 24 [(20, .int .i32 (-1)), (21, .int .i16 (-1))] :=
  calls_default nTabOK (dt := []) (fun f n ss h => by cases h) Tryd.func137 rfl rfl rfl (m := 2000) (by kernel_rfl)
theorem dc_142 : DContract Tryd.prog 142 6 [(3, .int .i8 (-1))] :=
  calls_default nTabOK (dt := []) (fun f n ss h => by cases h) Tryd.func142 rfl rfl rfl (m := 2000) (by kernel_rfl)
/-! ## reading -/
def aR : TabR :=
  ⟨[(134, .bool), (143, .i8), (100, .i16), (123, .u16), (107, .i32), (103, .i64), (136, .uuid), (102, .str), (113, .cstr), (141, .nstr), (139, .cnstr), (118, .byt), (117, .cbyt), (104, .nbyt)], [(109, false), (108, true)], 110, 105, 116,
  [(56, (4, [])), (62, (6, [])), (75, (3, [])), (77, (6, [(3, .int .i64 (-1)), (4, .int .i16 (-1))])), (87, (5, [])), (90, (5, [])), (93, (4, [])), (111, (3, [])), (114, (12, [])), (115, (3, [])), (122, (4, [])), (135, (18, [])), (137, (24, [(20, .int .i32 (-1)), (21, .int .i16 (-1))])), (142, (6, [(3, .int .i8 (-1))]))],
  [(22, ([.int .u8], [.int .u8 0])),
   (69, ([.int .i32, .int .u8, .int .u8, .int .u8, .int .u8, .int .u8, .int .u8, .int .u8, .int .u8, .int .u8, .int .u8, .int .u8, .int .u8, .int .u8, .int .u8, .int .u8, .int .u8, .tags false], [.int .i32 0, .int .u8 0, .int .u8 0, .int .u8 0, .int .u8 0, .int .u8 0, .int .u8 0, .int .u8 0, .int .u8 0, .int .u8 0, .int .u8 0, .int .u8 0, .int .u8 0, .int .u8 0, .int .u8 0, .int .u8 0, .int .u8 0, .map none])),
   (86, ([.str, .arr [.int .i32, .int .i16, .int .i64, .int .i32, .tags false, .int .i32, .int .i32, .tags false, .int .i64, .int .i64, .bytes, .tags false], .tags false], [.string ByteArray.empty, .slice none 0 0, .map none])),
   (87, ([.int .i32, .str, .int .u16, .tags false], [.int .i32 0, .string ByteArray.empty, .int .u16 0, .map none])),
   (93, ([.int .i32, .int .i16, .int .i64, .int .i32, .tags false, .int .i32, .int .i32, .tags false, .int .i64, .int .i64, .bytes, .tags false], [.int .i32 0, .int .i16 0, .int .i64 0, .int .i32 0, .map none, .int .i32 0, .int .i32 0, .map none, .int .i64 0, .int .i64 0, .slice none 0 0, .map none])),
   (105, ([.int .u32], [.int .u32 0])),
   (130, ([.str, .int .u8, .int .u8, .int .u8, .int .u8, .int .u8, .int .u8, .int .u8, .int .u8, .int .u8, .int .u8, .int .u8, .int .u8, .int .u8, .int .u8, .int .u8, .int .u8, .int .i16, .pstr, .int .i16, .int .i32, .int .i16, .arr [.str, .pstr, .bool, .int .i8, .bool, .tags false], .tags false], [.string ByteArray.empty, .int .u8 0, .int .u8 0, .int .u8 0, .int .u8 0, .int .u8 0, .int .u8 0, .int .u8 0, .int .u8 0, .int .u8 0, .int .u8 0, .int .u8 0, .int .u8 0, .int .u8 0, .int .u8 0, .int .u8 0, .int .u8 0, .int .i16 0, .pointer none, .int .i16 0, .int .i32 0, .int .i16 0, .slice none 0 0, .map none])),
   (135, ([.str, .pstr, .bool, .int .i8, .bool, .tags false], [.string ByteArray.empty, .pointer none, .bool false, .int .i8 0, .bool false, .map none]))]⟩
theorem aROK (E : Value) : TabROK Tryd.prog aR 146 1 E := by
  refine ⟨?_, ?_, ⟨rd_Ok, Tryd.call110⟩, ⟨rd_Complete _ E rfl, Tryd.call105⟩, ⟨rd_Tags, Tryd.call116⟩, ?_, elB_ok (by kernel_rfl)⟩
  · intro f p h
    simp only [aR, List.mem_cons, Prod.mk.injEq, List.not_mem_nil, or_false] at h
    rcases h with ⟨rfl, rfl⟩ | ⟨rfl, rfl⟩ | ⟨rfl, rfl⟩ | ⟨rfl, rfl⟩ | ⟨rfl, rfl⟩ | ⟨rfl, rfl⟩ | ⟨rfl, rfl⟩ | ⟨rfl, rfl⟩ | ⟨rfl, rfl⟩ | ⟨rfl, rfl⟩ | ⟨rfl, rfl⟩ | ⟨rfl, rfl⟩ | ⟨rfl, rfl⟩ | ⟨rfl, rfl⟩
    · exact ⟨rd_Bool, Tryd.call134⟩
    · exact ⟨rd_Int8, Tryd.call143⟩
    · exact ⟨rd_Int16, Tryd.call100⟩
    · exact ⟨rd_Uint16, Tryd.call123⟩
    · exact ⟨rd_Int32, Tryd.call107⟩
    · exact ⟨rd_Int64, Tryd.call103⟩
    · exact ⟨rd_Uuid, Tryd.call136⟩
    · exact ⟨rd_String, Tryd.call102⟩
    · exact ⟨rd_CompactString, Tryd.call113⟩
    · exact ⟨rd_NullableString, Tryd.call141⟩
    · exact ⟨rd_CompactNullableString, Tryd.call139⟩
    · exact ⟨rd_Bytes, Tryd.call118⟩
    · exact ⟨rd_CompactBytes, Tryd.call117⟩
    · exact ⟨rd_NullableBytes, Tryd.call104⟩
  · intro f p h
    simp only [aR, List.mem_cons, Prod.mk.injEq, List.not_mem_nil, or_false] at h
    rcases h with ⟨rfl, rfl⟩ | ⟨rfl, rfl⟩
    · exact ⟨rd_ArrayLen, Tryd.call109⟩
    · exact ⟨rd_CompactArrayLen, Tryd.call108⟩
  · intro f n ss h
    simp only [aR, List.mem_cons, Prod.mk.injEq, List.not_mem_nil, or_false] at h
    rcases h with ⟨rfl, rfl, rfl⟩ | ⟨rfl, rfl, rfl⟩ | ⟨rfl, rfl, rfl⟩ | ⟨rfl, rfl, rfl⟩ | ⟨rfl, rfl, rfl⟩ | ⟨rfl, rfl, rfl⟩ | ⟨rfl, rfl, rfl⟩ | ⟨rfl, rfl, rfl⟩ | ⟨rfl, rfl, rfl⟩ | ⟨rfl, rfl, rfl⟩ | ⟨rfl, rfl, rfl⟩ | ⟨rfl, rfl, rfl⟩ | ⟨rfl, rfl, rfl⟩ | ⟨rfl, rfl, rfl⟩
    · exact ⟨dc_56, Tryd.call56⟩
    · exact ⟨dc_62, Tryd.call62⟩
    · exact ⟨dc_75, Tryd.call75⟩
    · exact ⟨dc_77, Tryd.call77⟩
    · exact ⟨dc_87, Tryd.call87⟩
    · exact ⟨dc_90, Tryd.call90⟩
    · exact ⟨dc_93, Tryd.call93⟩
    · exact ⟨dc_111, Tryd.call111⟩
    · exact ⟨dc_114, Tryd.call114⟩
    · exact ⟨dc_115, Tryd.call115⟩
    · exact ⟨dc_122, Tryd.call122⟩
    · exact ⟨dc_135, Tryd.call135⟩
    · exact ⟨dc_137, Tryd.call137⟩
    · exact ⟨dc_142, Tryd.call142⟩
theorem rBuild (A : Option Addr) (n c : Nat) : Tryd.prog.built 146 [(0, .slice A n c)] = some #[.slice A n c, .bool false] := by kernel_rfl
theorem rInfo : Tryd.prog.info? 146 = some Tryd.t146 := by kernel_rfl
end Go.Proofs.YtobeonhmomiaaaaDoor
