/-
  The tables of the executors over this program, and that they fit.
-/
import Derived.Test.YtnohifmjpgeaoaaDoorRK6
import Derived.Test.YtnohifmjpgeaoaaDoorRK7
import Derived.Test.YtnohifmjpgeaoaaDoorSpecS
import Derived.Test.YtnohifmjpgeaoaaDoorRAgain
set_option linter.unusedVariables false
set_option linter.unusedSimpArgs false
namespace Go.Proofs.YtnohifmjpgeaoaaDoor
open Go Go.RowKit Go.Proofs.Eng
set_option maxRecDepth 20000
set_option maxHeartbeats 4000000

def nT : Tab :=
  ⟨[(7, [0, 1, 2, 3]), (8, [0, 1, 2, 3]), (13, [0, 1]), (14, [0, 1]), (18, [0]), (19, [0]), (25, [0, 1, 2, 3, 4]), (26, [0, 1, 2, 3, 4]), (32, [0, 1]), (33, [0, 1]), (48, [0, 1, 2, 3, 4, 5, 6, 7]), (49, [0, 1, 2, 3, 4, 5, 6, 7]), (68, [0, 1]), (69, [0, 1]), (72, [0]), (73, [0]), (74, [0, 1, 2, 3, 4]), (75, [0, 1, 2, 3, 4]), (89, [0, 1, 2, 3, 4, 5]), (90, [0, 1, 2, 3, 4, 5]), (93, [0, 1, 2, 3, 4]), (94, [0, 1, 2, 3, 4]), (99, [0, 1, 2, 3, 4]), (100, [0, 1, 2, 3, 4]), (105, [0, 1, 2]), (106, [0, 1, 2]), (109, [0, 1, 2, 3, 4, 5, 6, 7, 8, 9]), (110, [0, 1, 2, 3, 4, 5, 6, 7, 8, 9]), (113, [0, 1, 2]), (114, [0, 1, 2]), (117, [0, 1, 2, 3, 4, 5]), (118, [0, 1, 2, 3, 4, 5]), (121, [0, 1, 2]), (122, [0, 1, 2]), (124, [0, 1, 2, 3, 4]), (125, [0, 1, 2, 3, 4]), (127, [0, 1, 2, 3, 4, 5, 6, 7, 8, 9, 10, 11]), (128, [0, 1, 2, 3, 4, 5, 6, 7, 8, 9, 10, 11]), (131, [0, 16, 17]), (132, [0, 16, 17]), (141, [0, 1]), (142, [0, 1]), (176, [0, 1, 2]), (177, [0, 1, 2]), (183, [0, 1]), (184, [0, 1]), (185, [0]), (186, [0]), (206, [0, 1, 2, 3]), (207, [0, 1, 2, 3]), (217, [0, 1, 2, 3, 4, 5, 6, 7, 8, 9, 10]), (218, [0, 1, 2, 3, 4, 5, 6, 7, 8, 9, 10]), (220, [0, 1]), (221, [0, 1]), (222, [0]), (223, [0])],
  [(1, (1, false)), (2, (1, false)), (3, (1, false)), (4, (1, false)), (5, (1, false)), (6, (1, false)), (7, (4, true)), (8, (4, true)), (9, (1, false)), (10, (1, false)), (11, (1, false)), (12, (1, false)), (13, (2, true)), (14, (2, true)), (15, (1, false)), (16, (1, false)), (17, (1, false)), (18, (1, true)), (19, (1, true)), (20, (1, false)), (21, (1, false)), (22, (1, false)), (23, (1, false)), (24, (1, false)), (25, (5, true)), (26, (5, true)), (27, (1, false)), (28, (1, false)), (29, (1, false)), (30, (1, false)), (31, (1, false)), (32, (2, true)), (33, (2, true)), (34, (1, false)), (35, (1, false)), (37, (1, false)), (38, (1, false)), (39, (1, false)), (40, (1, false)), (41, (1, false)), (42, (1, false)), (43, (1, false)), (44, (1, false)), (45, (1, false)), (46, (1, false)), (47, (1, false)), (48, (8, true)), (49, (8, true)), (50, (1, false)), (51, (1, false)), (52, (1, false)), (53, (1, false)), (54, (1, false)), (55, (1, false)), (56, (1, false)), (57, (1, false)), (58, (1, false)), (59, (1, false)), (60, (1, false)), (61, (1, false)), (62, (1, false)), (63, (1, false)), (64, (1, false)), (65, (1, false)), (66, (1, false)), (67, (1, false)), (68, (2, true)), (69, (2, true)), (70, (1, false)), (71, (1, false)), (72, (1, true)), (73, (1, true)), (74, (5, true)), (75, (5, true)), (76, (1, false)), (77, (1, false)), (78, (1, false)), (79, (1, false)), (80, (1, false)), (81, (1, false)), (82, (1, false)), (83, (1, false)), (84, (1, false)), (85, (1, false)), (86, (1, false)), (87, (1, false)), (88, (1, false)), (89, (6, true)), (90, (6, true)), (91, (1, false)), (92, (1, false)), (93, (5, true)), (94, (5, true)), (95, (1, false)), (96, (1, false)), (97, (1, false)), (98, (1, false)), (99, (5, true)), (100, (5, true)), (101, (1, false)), (102, (1, false)), (103, (1, false)), (104, (1, false)), (105, (3, true)), (106, (3, true)), (107, (1, false)), (108, (1, false)), (109, (10, true)), (110, (10, true)), (111, (1, false)), (112, (1, false)), (113, (3, true)), (114, (3, true)), (115, (1, false)), (116, (1, false)), (117, (6, true)), (118, (6, true)), (119, (1, false)), (120, (1, false)), (121, (3, true)), (122, (3, true)), (123, (1, false)), (124, (5, true)), (125, (5, true)), (126, (1, false)), (127, (12, true)), (128, (12, true)), (129, (1, false)), (130, (16, true)), (131, (18, true)), (132, (18, true)), (133, (1, false)), (134, (1, false)), (135, (1, false)), (136, (1, false)), (137, (1, false)), (138, (1, false)), (139, (1, false)), (140, (1, false)), (141, (2, true)), (142, (2, true)), (143, (1, false)), (144, (1, false)), (145, (1, false)), (146, (1, false)), (147, (1, false)), (148, (1, false)), (149, (1, false)), (150, (1, false)), (151, (1, false)), (152, (1, false)), (153, (1, false)), (154, (1, false)), (155, (1, false)), (156, (1, false)), (157, (1, false)), (158, (1, false)), (159, (1, false)), (160, (0, true)), (161, (0, true)), (162, (1, false)), (163, (1, false)), (164, (1, false)), (165, (1, false)), (166, (1, false)), (167, (1, false)), (168, (1, false)), (169, (1, false)), (170, (1, false)), (171, (1, false)), (173, (1, false)), (174, (1, false)), (175, (1, false)), (176, (3, true)), (177, (3, true)), (178, (1, false)), (179, (1, false)), (180, (1, false)), (181, (1, false)), (182, (1, false)), (183, (2, true)), (184, (2, true)), (185, (1, true)), (186, (1, true)), (187, (1, false)), (188, (1, false)), (189, (1, false)), (190, (1, false)), (192, (1, false)), (193, (1, false)), (194, (1, false)), (196, (1, false)), (197, (1, false)), (198, (1, false)), (199, (1, false)), (200, (1, false)), (201, (1, false)), (202, (1, false)), (204, (1, false)), (205, (1, false)), (206, (4, true)), (207, (4, true)), (208, (0, true)), (209, (0, true)), (210, (0, true)), (211, (1, false)), (212, (1, false)), (213, (1, false)), (214, (1, false)), (215, (1, false)), (216, (1, false)), (217, (11, true)), (218, (11, true)), (219, (1, false)), (220, (2, true)), (221, (2, true)), (222, (1, true)), (223, (1, true)), (224, (1, false))],
  [(22, 1), (23, 5), (24, 2), (31, 8), (92, 1), (98, 3), (104, 1), (108, 3), (116, 3), (120, 5), (126, 18), (167, 1)],
  [], [(2, .i64), (3, .i64), (5, .u8), (6, .u8), (12, .u64), (21, .i32), (27, .u16), (43, .i16), (67, .u32), (82, .u64), (97, .i8), (140, .u64), (175, .u64), (190, .i64), (197, .u64), (211, .u8), (212, .u8), (215, .i32), (216, .i32)], [130],
  [(92, .bool), (95, .i8), (78, .i16), (120, .u16), (80, .i32), (79, .i64), (108, .uuid), (87, .str), (86, .cstr), (101, .nstr), (100, .cnstr), (103, .byt), (102, .cbyt)], [(91, .al), (90, .cal), (97, .nal), (96, .cnal)], 81, 82, 83, 5, false⟩
theorem nTabOK : TabOK Tryd.prog nT := tabB_ok (by kernel_rfl)
theorem nConts : Conts Tryd.prog nT := by
  refine ⟨?_, ?_, ⟨AppendUvarint_any, Tryd.call81⟩, ⟨c_TagsLen, Tryd.call82⟩, ⟨c_AppendEach, Tryd.call83⟩⟩
  · intro f p h
    simp only [nT, List.mem_cons, Prod.mk.injEq, List.not_mem_nil, or_false] at h
    rcases h with ⟨rfl, rfl⟩ | ⟨rfl, rfl⟩ | ⟨rfl, rfl⟩ | ⟨rfl, rfl⟩ | ⟨rfl, rfl⟩ | ⟨rfl, rfl⟩ | ⟨rfl, rfl⟩ | ⟨rfl, rfl⟩ | ⟨rfl, rfl⟩ | ⟨rfl, rfl⟩ | ⟨rfl, rfl⟩ | ⟨rfl, rfl⟩ | ⟨rfl, rfl⟩
    · exact ⟨c_AppendBool, Tryd.call92⟩
    · exact ⟨c_AppendInt8, Tryd.call95⟩
    · exact ⟨c_AppendInt16, Tryd.call78⟩
    · exact ⟨c_AppendUint16, Tryd.call120⟩
    · exact ⟨c_AppendInt32, Tryd.call80⟩
    · exact ⟨c_AppendInt64, Tryd.call79⟩
    · exact ⟨c_AppendUuid, Tryd.call108⟩
    · exact ⟨c_AppendString, Tryd.call87⟩
    · exact ⟨c_AppendCompactString, Tryd.call86⟩
    · exact ⟨c_AppendNullableString, Tryd.call101⟩
    · exact ⟨c_AppendCompactNullableString, Tryd.call100⟩
    · exact ⟨c_AppendBytes, Tryd.call103⟩
    · exact ⟨c_AppendCompactBytes, Tryd.call102⟩
  · intro f p h
    simp only [nT, List.mem_cons, Prod.mk.injEq, List.not_mem_nil, or_false] at h
    rcases h with ⟨rfl, rfl⟩ | ⟨rfl, rfl⟩ | ⟨rfl, rfl⟩ | ⟨rfl, rfl⟩
    · exact ⟨c_AppendArrayLen, Tryd.call91⟩
    · exact ⟨c_AppendCompactArrayLen, Tryd.call90⟩
    · exact ⟨c_AppendNullableArrayLen, Tryd.call97⟩
    · exact ⟨c_AppendCompactNullableArrayLen, Tryd.call96⟩
/-! ## defaults -/
theorem dc_68 : DContract Tryd.prog 68 5 [] :=
  calls_default nTabOK (dt := []) (fun f n ss h => by cases h) Tryd.func68 rfl rfl rfl (m := 2000) (by kernel_rfl)
theorem dc_84 : DContract Tryd.prog 84 6 [] :=
  calls_default nTabOK (dt := []) (fun f n ss h => by cases h) Tryd.func84 rfl rfl rfl (m := 2000) (by kernel_rfl)
theorem dc_88 : DContract Tryd.prog 88 5 [] :=
  calls_default nTabOK (dt := []) (fun f n ss h => by cases h) Tryd.func88 rfl rfl rfl (m := 2000) (by kernel_rfl)
theorem dc_93 : DContract Tryd.prog 93 5 [(3, .int .i32 60000)] :=
  calls_default nTabOK (dt := []) (fun f n ss h => by cases h) Tryd.func93 rfl rfl rfl (m := 2000) (by kernel_rfl)
theorem dc_98 : DContract Tryd.prog 98 10 [(3, .int .i32 (-1))] :=
  calls_default nTabOK (dt := []) (fun f n ss h => by cases h) Tryd.func98 rfl rfl rfl (m := 2000) (by kernel_rfl)
theorem dc_104 : DContract Tryd.prog 104 6 [] :=
  calls_default nTabOK (dt := []) (fun f n ss h => by cases h) Tryd.func104 rfl rfl rfl (m := 2000) (by kernel_rfl)
theorem dc_106 : DContract Tryd.prog 106 12 [(6, .int .i32 (-1))] :=
  calls_default nTabOK (dt := []) (fun f n ss h => by cases h) Tryd.func106 rfl rfl rfl (m := 2000) (by kernel_rfl)
theorem dc_135 : DContract Tryd.prog 135 3 [] :=
  calls_default nTabOK (dt := []) (fun f n ss h => by cases h) Tryd.func135 rfl rfl rfl (m := 2000) (by kernel_rfl)
theorem dc_140 : DContract Tryd.prog 140 3 [] :=
  calls_default nTabOK (dt := []) (fun f n ss h => by cases h) Tryd.func140 rfl rfl rfl (m := 2000) (by kernel_rfl)
theorem dc_143 : DContract Tryd.prog 143 3 [] :=
  calls_default nTabOK (dt := []) (fun f n ss h => by cases h) Tryd.func143 rfl rfl rfl (m := 2000) (by kernel_rfl)
theorem dc_144 : DContract Tryd.prog 144 5 [] :=
  calls_default nTabOK (dt := []) (fun f n ss h => by cases h) Tryd.func144 rfl rfl rfl (m := 2000) (by kernel_rfl)
theorem dc_145 : DContract Tryd.prog 145 18 [] :=
  calls_default nTabOK (dt := []) (fun f n ss h => by cases h) Tryd.func145 rfl rfl rfl (m := 2000) (by kernel_rfl)
/-! ## reading -/
def aR : TabR :=
  ⟨[(133, .bool), (134, .i8), (115, .i16), (117, .i32), (116, .i64), (146, .uuid), (129, .str), (128, .cstr), (139, .nstr), (137, .cnstr), (142, .byt), (141, .cbyt)], [(131, false), (130, true)], 132, 119, 118,
  [(68, (5, [])), (84, (6, [])), (88, (5, [])), (93, (5, [(3, .int .i32 60000)])), (98, (10, [(3, .int .i32 (-1))])), (104, (6, [])), (106, (12, [(6, .int .i32 (-1))])), (135, (3, [])), (140, (3, [])), (143, (3, [])), (144, (5, [])), (145, (18, []))],
  [(22, ([.int .u8], [.int .u8 0])),
   (92, ([.str], [.string ByteArray.empty])),
   (98, ([.str, .arr [.int .i32], .tags false], [.string ByteArray.empty, .slice none 0 0, .map none])),
   (104, ([.int .i32], [.int .i32 0])),
   (108, ([.str, .bytes, .tags false], [.string ByteArray.empty, .slice none 0 0, .map none])),
   (116, ([.str, .arr [.int .i32, .arr [.int .i32], .arr [.int .i32], .arr [.int .i32], .tags false], .tags false], [.string ByteArray.empty, .slice none 0 0, .map none])),
   (120, ([.int .i32, .arr [.int .i32], .arr [.int .i32], .arr [.int .i32], .tags false], [.int .i32 0, .slice none 0 0, .slice none 0 0, .slice none 0 0, .map none])),
   (126, ([.int .u8, .int .u8, .int .u8, .int .u8, .int .u8, .int .u8, .int .u8, .int .u8, .int .u8, .int .u8, .int .u8, .int .u8, .int .u8, .int .u8, .int .u8, .int .u8, .arr [.int .i32], .tags false], [.int .u8 0, .int .u8 0, .int .u8 0, .int .u8 0, .int .u8 0, .int .u8 0, .int .u8 0, .int .u8 0, .int .u8 0, .int .u8 0, .int .u8 0, .int .u8 0, .int .u8 0, .int .u8 0, .int .u8 0, .int .u8 0, .slice none 0 0, .map none])),
   (167, ([.int .u32], [.int .u32 0]))]⟩
theorem aROK (E : Value) : TabROK Tryd.prog aR 142 1 E := by
  refine ⟨?_, ?_, ⟨rd_Ok, Tryd.call132⟩, ⟨rd_Complete _ E rfl, Tryd.call119⟩, ⟨rd_Tags, Tryd.call118⟩, ?_, elB_ok (by kernel_rfl)⟩
  · intro f p h
    simp only [aR, List.mem_cons, Prod.mk.injEq, List.not_mem_nil, or_false] at h
    rcases h with ⟨rfl, rfl⟩ | ⟨rfl, rfl⟩ | ⟨rfl, rfl⟩ | ⟨rfl, rfl⟩ | ⟨rfl, rfl⟩ | ⟨rfl, rfl⟩ | ⟨rfl, rfl⟩ | ⟨rfl, rfl⟩ | ⟨rfl, rfl⟩ | ⟨rfl, rfl⟩ | ⟨rfl, rfl⟩ | ⟨rfl, rfl⟩
    · exact ⟨rd_Bool, Tryd.call133⟩
    · exact ⟨rd_Int8, Tryd.call134⟩
    · exact ⟨rd_Int16, Tryd.call115⟩
    · exact ⟨rd_Int32, Tryd.call117⟩
    · exact ⟨rd_Int64, Tryd.call116⟩
    · exact ⟨rd_Uuid, Tryd.call146⟩
    · exact ⟨rd_String, Tryd.call129⟩
    · exact ⟨rd_CompactString, Tryd.call128⟩
    · exact ⟨rd_NullableString, Tryd.call139⟩
    · exact ⟨rd_CompactNullableString, Tryd.call137⟩
    · exact ⟨rd_Bytes, Tryd.call142⟩
    · exact ⟨rd_CompactBytes, Tryd.call141⟩
  · intro f p h
    simp only [aR, List.mem_cons, Prod.mk.injEq, List.not_mem_nil, or_false] at h
    rcases h with ⟨rfl, rfl⟩ | ⟨rfl, rfl⟩
    · exact ⟨rd_ArrayLen, Tryd.call131⟩
    · exact ⟨rd_CompactArrayLen, Tryd.call130⟩
  · intro f n ss h
    simp only [aR, List.mem_cons, Prod.mk.injEq, List.not_mem_nil, or_false] at h
    rcases h with ⟨rfl, rfl, rfl⟩ | ⟨rfl, rfl, rfl⟩ | ⟨rfl, rfl, rfl⟩ | ⟨rfl, rfl, rfl⟩ | ⟨rfl, rfl, rfl⟩ | ⟨rfl, rfl, rfl⟩ | ⟨rfl, rfl, rfl⟩ | ⟨rfl, rfl, rfl⟩ | ⟨rfl, rfl, rfl⟩ | ⟨rfl, rfl, rfl⟩ | ⟨rfl, rfl, rfl⟩ | ⟨rfl, rfl, rfl⟩
    · exact ⟨dc_68, Tryd.call68⟩
    · exact ⟨dc_84, Tryd.call84⟩
    · exact ⟨dc_88, Tryd.call88⟩
    · exact ⟨dc_93, Tryd.call93⟩
    · exact ⟨dc_98, Tryd.call98⟩
    · exact ⟨dc_104, Tryd.call104⟩
    · exact ⟨dc_106, Tryd.call106⟩
    · exact ⟨dc_135, Tryd.call135⟩
    · exact ⟨dc_140, Tryd.call140⟩
    · exact ⟨dc_143, Tryd.call143⟩
    · exact ⟨dc_144, Tryd.call144⟩
    · exact ⟨dc_145, Tryd.call145⟩
theorem rBuild (A : Option Addr) (n c : Nat) : Tryd.prog.built 142 [(0, .slice A n c)] = some #[.slice A n c, .bool false] := by kernel_rfl
theorem rInfo : Tryd.prog.info? 142 = some Tryd.t142 := by kernel_rfl
end Go.Proofs.YtnohifmjpgeaoaaDoor
