/-
  The tables of the executors over this program, and that they fit.
-/
import Derived.Test.YtnohifmjpgeaoaaGreatDoorRK6
import Derived.Test.YtnohifmjpgeaoaaGreatDoorRK7
import Derived.Test.YtnohifmjpgeaoaaGreatDoorSpecS
import Derived.Test.YtnohifmjpgeaoaaGreatDoorRAgain
set_option linter.unusedVariables false
set_option linter.unusedSimpArgs false
namespace Go.Proofs.YtnohifmjpgeaoaaGreatDoor
open Go Go.RowKit Go.Proofs.Eng
set_option maxRecDepth 20000
set_option maxHeartbeats 4000000

def nT : Tab :=
  ⟨[(7, [0, 1, 2, 3]), (8, [0, 1, 2, 3]), (13, [0, 1]), (14, [0, 1]), (18, [0]), (19, [0]), (25, [0, 1, 2, 3, 4]), (26, [0, 1, 2, 3, 4]), (31, [0, 1]), (32, [0, 1]), (47, [0, 1, 2, 3, 4, 5, 6, 7]), (48, [0, 1, 2, 3, 4, 5, 6, 7]), (64, [0, 1]), (65, [0, 1]), (69, [0]), (70, [0]), (71, [0, 1, 2, 3, 4]), (72, [0, 1, 2, 3, 4]), (86, [0, 1, 2, 3, 4]), (88, [0, 1, 2]), (89, [0, 1, 2]), (92, [0, 1, 2, 3, 4, 5]), (93, [0, 1, 2, 3, 4, 5]), (95, [0, 1, 2, 3, 4]), (96, [0, 1, 2, 3, 4]), (98, [0, 1, 2, 3]), (99, [0, 1, 2, 3]), (107, [0, 1]), (108, [0, 1]), (135, [0, 1, 2]), (136, [0, 1, 2]), (142, [0, 1]), (143, [0, 1]), (144, [0]), (145, [0]), (166, [0, 1, 2, 3]), (167, [0, 1, 2, 3]), (177, [0, 1, 2, 3, 4, 5, 6, 7, 8, 9, 10]), (178, [0, 1, 2, 3, 4, 5, 6, 7, 8, 9, 10]), (180, [0, 1]), (181, [0, 1]), (182, [0]), (183, [0])],
  [(1, (1, false)), (2, (1, false)), (3, (1, false)), (4, (1, false)), (5, (1, false)), (6, (1, false)), (7, (4, true)), (8, (4, true)), (9, (1, false)), (10, (1, false)), (11, (1, false)), (12, (1, false)), (13, (2, true)), (14, (2, true)), (15, (1, false)), (16, (1, false)), (17, (1, false)), (18, (1, true)), (19, (1, true)), (20, (1, false)), (21, (1, false)), (22, (1, false)), (23, (1, false)), (24, (1, false)), (25, (5, true)), (26, (5, true)), (27, (1, false)), (28, (1, false)), (29, (1, false)), (30, (1, false)), (31, (2, true)), (32, (2, true)), (33, (1, false)), (34, (1, false)), (36, (1, false)), (37, (1, false)), (38, (1, false)), (39, (1, false)), (40, (1, false)), (41, (1, false)), (42, (1, false)), (43, (1, false)), (44, (1, false)), (45, (1, false)), (46, (1, false)), (47, (8, true)), (48, (8, true)), (49, (1, false)), (50, (1, false)), (51, (1, false)), (52, (1, false)), (53, (1, false)), (54, (1, false)), (55, (1, false)), (56, (1, false)), (57, (1, false)), (58, (1, false)), (59, (1, false)), (60, (1, false)), (61, (1, false)), (62, (1, false)), (63, (1, false)), (64, (2, true)), (65, (2, true)), (66, (1, false)), (67, (1, false)), (68, (1, false)), (69, (1, true)), (70, (1, true)), (71, (5, true)), (72, (5, true)), (73, (1, false)), (74, (1, false)), (75, (1, false)), (76, (1, false)), (77, (1, false)), (78, (1, false)), (79, (1, false)), (80, (1, false)), (81, (1, false)), (82, (1, false)), (83, (1, false)), (84, (1, false)), (85, (1, false)), (86, (5, true)), (87, (1, false)), (88, (3, true)), (89, (3, true)), (90, (1, false)), (91, (1, false)), (92, (6, true)), (93, (6, true)), (94, (1, false)), (95, (5, true)), (96, (5, true)), (97, (1, false)), (98, (4, true)), (99, (4, true)), (100, (1, false)), (101, (1, false)), (102, (1, false)), (103, (1, false)), (104, (1, false)), (105, (1, false)), (106, (1, false)), (107, (2, true)), (108, (2, true)), (109, (1, false)), (110, (1, false)), (111, (1, false)), (112, (1, false)), (113, (1, false)), (114, (1, false)), (115, (1, false)), (116, (1, false)), (117, (1, false)), (118, (1, false)), (119, (1, false)), (120, (1, false)), (121, (0, true)), (122, (0, true)), (123, (1, false)), (124, (1, false)), (125, (1, false)), (126, (1, false)), (127, (1, false)), (128, (1, false)), (129, (1, false)), (130, (1, false)), (132, (1, false)), (133, (1, false)), (134, (1, false)), (135, (3, true)), (136, (3, true)), (137, (1, false)), (138, (1, false)), (139, (1, false)), (140, (1, false)), (141, (1, false)), (142, (2, true)), (143, (2, true)), (144, (1, true)), (145, (1, true)), (146, (1, false)), (147, (1, false)), (148, (1, false)), (149, (1, false)), (151, (1, false)), (152, (1, false)), (153, (1, false)), (155, (1, false)), (156, (1, false)), (157, (1, false)), (158, (1, false)), (159, (1, false)), (160, (1, false)), (161, (1, false)), (162, (1, false)), (164, (1, false)), (165, (1, false)), (166, (4, true)), (167, (4, true)), (168, (0, true)), (169, (0, true)), (170, (0, true)), (171, (1, false)), (172, (1, false)), (173, (1, false)), (174, (1, false)), (175, (1, false)), (176, (1, false)), (177, (11, true)), (178, (11, true)), (179, (1, false)), (180, (2, true)), (181, (2, true)), (182, (1, true)), (183, (1, true)), (184, (1, false))],
  [(22, 1), (23, 5), (24, 2), (30, 8), (87, 1), (94, 4), (128, 1)],
  [], [(2, .i64), (3, .i64), (5, .u8), (6, .u8), (12, .u64), (21, .i32), (39, .u16), (42, .i16), (63, .u32), (79, .u64), (106, .u64), (134, .u64), (149, .i64), (156, .u64), (171, .u8), (172, .u8), (175, .i32), (176, .i32)], [],
  [(67, .i16), (100, .u16), (66, .i32), (80, .str), (79, .cstr), (69, .nstr), (68, .cnstr)], [(78, .al), (77, .cal)], 70, 71, 72, 5, false⟩
theorem nTabOK : TabOK Tryz.prog nT := tabB_ok (by kernel_rfl)
theorem nConts : Conts Tryz.prog nT := by
  refine ⟨?_, ?_, ⟨AppendUvarint_any, Tryz.call70⟩, ⟨c_TagsLen, Tryz.call71⟩, ⟨c_AppendEach, Tryz.call72⟩⟩
  · intro f p h
    simp only [nT, List.mem_cons, Prod.mk.injEq, List.not_mem_nil, or_false] at h
    rcases h with ⟨rfl, rfl⟩ | ⟨rfl, rfl⟩ | ⟨rfl, rfl⟩ | ⟨rfl, rfl⟩ | ⟨rfl, rfl⟩ | ⟨rfl, rfl⟩ | ⟨rfl, rfl⟩
    · exact ⟨c_AppendInt16, Tryz.call67⟩
    · exact ⟨c_AppendUint16, Tryz.call100⟩
    · exact ⟨c_AppendInt32, Tryz.call66⟩
    · exact ⟨c_AppendString, Tryz.call80⟩
    · exact ⟨c_AppendCompactString, Tryz.call79⟩
    · exact ⟨c_AppendNullableString, Tryz.call69⟩
    · exact ⟨c_AppendCompactNullableString, Tryz.call68⟩
  · intro f p h
    simp only [nT, List.mem_cons, Prod.mk.injEq, List.not_mem_nil, or_false] at h
    rcases h with ⟨rfl, rfl⟩ | ⟨rfl, rfl⟩
    · exact ⟨c_AppendArrayLen, Tryz.call78⟩
    · exact ⟨c_AppendCompactArrayLen, Tryz.call77⟩
/-! ## defaults -/
theorem dc_56 : DContract Tryz.prog 56 5 [] :=
  calls_default nTabOK (dt := []) (fun f n ss h => by cases h) Tryz.func56 rfl rfl rfl (m := 2000) (by kernel_rfl)
theorem dc_73 : DContract Tryz.prog 73 5 [] :=
  calls_default nTabOK (dt := []) (fun f n ss h => by cases h) Tryz.func73 rfl rfl rfl (m := 2000) (by kernel_rfl)
theorem dc_75 : DContract Tryz.prog 75 3 [] :=
  calls_default nTabOK (dt := []) (fun f n ss h => by cases h) Tryz.func75 rfl rfl rfl (m := 2000) (by kernel_rfl)
theorem dc_81 : DContract Tryz.prog 81 6 [] :=
  calls_default nTabOK (dt := []) (fun f n ss h => by cases h) Tryz.func81 rfl rfl rfl (m := 2000) (by kernel_rfl)
theorem dc_83 : DContract Tryz.prog 83 5 [] :=
  calls_default nTabOK (dt := []) (fun f n ss h => by cases h) Tryz.func83 rfl rfl rfl (m := 2000) (by kernel_rfl)
theorem dc_111 : DContract Tryz.prog 111 4 [] :=
  calls_default nTabOK (dt := []) (fun f n ss h => by cases h) Tryz.func111 rfl rfl rfl (m := 2000) (by kernel_rfl)
/-! ## reading -/
def aR : TabR :=
  ⟨[(92, .i16), (91, .i32), (110, .str), (109, .cstr), (96, .nstr), (94, .cnstr)], [(105, false), (104, true)], 106, 98, 97,
  [(56, (5, [])), (73, (5, [])), (75, (3, [])), (81, (6, [])), (83, (5, [])), (111, (4, []))],
  [(22, ([.int .u8], [.int .u8 0])),
   (87, ([.str], [.string ByteArray.empty])),
   (94, ([.str, .pstr, .int .i16, .tags false], [.string ByteArray.empty, .pointer none, .int .i16 0, .map none])),
   (128, ([.int .u32], [.int .u32 0]))]⟩
theorem aROK (E : Value) : TabROK Tryz.prog aR 108 1 E := by
  refine ⟨?_, ?_, ⟨rd_Ok, Tryz.call106⟩, ⟨rd_Complete _ E rfl, Tryz.call98⟩, ⟨rd_Tags, Tryz.call97⟩, ?_, elB_ok (by kernel_rfl)⟩
  · intro f p h
    simp only [aR, List.mem_cons, Prod.mk.injEq, List.not_mem_nil, or_false] at h
    rcases h with ⟨rfl, rfl⟩ | ⟨rfl, rfl⟩ | ⟨rfl, rfl⟩ | ⟨rfl, rfl⟩ | ⟨rfl, rfl⟩ | ⟨rfl, rfl⟩
    · exact ⟨rd_Int16, Tryz.call92⟩
    · exact ⟨rd_Int32, Tryz.call91⟩
    · exact ⟨rd_String, Tryz.call110⟩
    · exact ⟨rd_CompactString, Tryz.call109⟩
    · exact ⟨rd_NullableString, Tryz.call96⟩
    · exact ⟨rd_CompactNullableString, Tryz.call94⟩
  · intro f p h
    simp only [aR, List.mem_cons, Prod.mk.injEq, List.not_mem_nil, or_false] at h
    rcases h with ⟨rfl, rfl⟩ | ⟨rfl, rfl⟩
    · exact ⟨rd_ArrayLen, Tryz.call105⟩
    · exact ⟨rd_CompactArrayLen, Tryz.call104⟩
  · intro f n ss h
    simp only [aR, List.mem_cons, Prod.mk.injEq, List.not_mem_nil, or_false] at h
    rcases h with ⟨rfl, rfl, rfl⟩ | ⟨rfl, rfl, rfl⟩ | ⟨rfl, rfl, rfl⟩ | ⟨rfl, rfl, rfl⟩ | ⟨rfl, rfl, rfl⟩ | ⟨rfl, rfl, rfl⟩
    · exact ⟨dc_56, Tryz.call56⟩
    · exact ⟨dc_73, Tryz.call73⟩
    · exact ⟨dc_75, Tryz.call75⟩
    · exact ⟨dc_81, Tryz.call81⟩
    · exact ⟨dc_83, Tryz.call83⟩
    · exact ⟨dc_111, Tryz.call111⟩
theorem rBuild (A : Option Addr) (n c : Nat) : Tryz.prog.built 108 [(0, .slice A n c)] = some #[.slice A n c, .bool false] := by kernel_rfl
theorem rInfo : Tryz.prog.info? 108 = some Tryz.t108 := by kernel_rfl
end Go.Proofs.YtnohifmjpgeaoaaGreatDoor
