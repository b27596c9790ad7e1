/-
  The tables of the executors over this program, and that they fit.
-/
import Derived.Test.YthejiimocbfagabGreatDoorRK6
import Derived.Test.YthejiimocbfagabGreatDoorRK7
import Derived.Test.YthejiimocbfagabGreatDoorSpecS
import Derived.Test.YthejiimocbfagabGreatDoorRAgain
set_option linter.unusedVariables false
set_option linter.unusedSimpArgs false
namespace Go.Proofs.YthejiimocbfagabGreatDoor
open Go Go.RowKit Go.Proofs.Eng
set_option maxRecDepth 20000
set_option maxHeartbeats 4000000

def nT : Tab :=
  ⟨[(7, [0, 1, 2, 3]), (8, [0, 1, 2, 3]), (13, [0, 1]), (14, [0, 1]), (18, [0]), (19, [0]), (25, [0, 1, 2, 3, 4]), (26, [0, 1, 2, 3, 4]), (32, [0, 1]), (33, [0, 1]), (45, [0, 1, 2, 3, 4, 5, 6, 7]), (46, [0, 1, 2, 3, 4, 5, 6, 7]), (54, [0, 1]), (55, [0, 1]), (63, [0]), (64, [0]), (65, [0, 1, 2, 3, 19, 20, 21, 22, 23, 24, 25]), (66, [0, 1, 2, 3, 19, 20, 21, 22, 23, 24, 25]), (81, [0, 1, 2, 3, 4]), (82, [0, 1, 2, 3, 4]), (87, [0, 1, 2, 3]), (88, [0, 1, 2, 3]), (100, [0, 1]), (101, [0, 1]), (133, [0, 1, 2]), (134, [0, 1, 2]), (140, [0, 1]), (141, [0, 1]), (142, [0]), (143, [0]), (163, [0, 1, 2, 3]), (164, [0, 1, 2, 3]), (174, [0, 1, 2, 3, 4, 5, 6, 7, 8, 9, 10]), (175, [0, 1, 2, 3, 4, 5, 6, 7, 8, 9, 10]), (177, [0, 1]), (178, [0, 1]), (179, [0]), (180, [0])],
  [(1, (1, false)), (2, (1, false)), (3, (1, false)), (4, (1, false)), (5, (1, false)), (6, (1, false)), (7, (4, true)), (8, (4, true)), (9, (1, false)), (10, (1, false)), (11, (1, false)), (12, (1, false)), (13, (2, true)), (14, (2, true)), (15, (1, false)), (16, (1, false)), (17, (1, false)), (18, (1, true)), (19, (1, true)), (20, (1, false)), (21, (1, false)), (22, (1, false)), (23, (1, false)), (24, (1, false)), (25, (5, true)), (26, (5, true)), (27, (1, false)), (28, (1, false)), (29, (1, false)), (30, (1, false)), (31, (1, false)), (32, (2, true)), (33, (2, true)), (34, (1, false)), (35, (1, false)), (37, (1, false)), (38, (1, false)), (39, (1, false)), (40, (1, false)), (41, (1, false)), (42, (1, false)), (43, (1, false)), (44, (1, false)), (45, (8, true)), (46, (8, true)), (47, (1, false)), (48, (1, false)), (49, (1, false)), (50, (1, false)), (51, (1, false)), (52, (1, false)), (53, (1, false)), (54, (2, true)), (55, (2, true)), (56, (1, false)), (57, (16, true)), (58, (1, false)), (59, (1, false)), (60, (1, false)), (61, (1, false)), (62, (1, false)), (63, (1, true)), (64, (1, true)), (65, (26, true)), (66, (26, true)), (67, (1, false)), (68, (1, false)), (69, (1, false)), (70, (1, false)), (71, (1, false)), (72, (1, false)), (73, (1, false)), (74, (1, false)), (75, (1, false)), (76, (1, false)), (77, (1, false)), (78, (1, false)), (79, (1, false)), (80, (1, false)), (81, (5, true)), (82, (5, true)), (83, (1, false)), (84, (1, false)), (85, (1, false)), (86, (1, false)), (87, (4, true)), (88, (4, true)), (89, (1, false)), (90, (1, false)), (91, (1, false)), (92, (1, false)), (93, (1, false)), (94, (1, false)), (95, (1, false)), (96, (1, false)), (97, (1, false)), (98, (1, false)), (99, (1, false)), (100, (2, true)), (101, (2, true)), (102, (1, false)), (103, (1, false)), (104, (1, false)), (105, (1, false)), (106, (1, false)), (107, (1, false)), (108, (1, false)), (109, (1, false)), (110, (1, false)), (111, (1, false)), (112, (1, false)), (113, (1, false)), (114, (1, false)), (115, (1, false)), (116, (1, false)), (117, (0, true)), (118, (0, true)), (119, (1, false)), (120, (1, false)), (121, (1, false)), (122, (1, false)), (123, (1, false)), (124, (1, false)), (125, (1, false)), (126, (1, false)), (127, (1, false)), (129, (1, false)), (130, (1, false)), (131, (1, false)), (132, (1, false)), (133, (3, true)), (134, (3, true)), (135, (1, false)), (136, (1, false)), (137, (1, false)), (138, (1, false)), (139, (1, false)), (140, (2, true)), (141, (2, true)), (142, (1, true)), (143, (1, true)), (144, (1, false)), (145, (1, false)), (146, (1, false)), (147, (1, false)), (149, (1, false)), (150, (1, false)), (151, (1, false)), (153, (1, false)), (154, (1, false)), (155, (1, false)), (156, (1, false)), (157, (1, false)), (158, (1, false)), (159, (1, false)), (161, (1, false)), (162, (1, false)), (163, (4, true)), (164, (4, true)), (165, (0, true)), (166, (0, true)), (167, (0, true)), (168, (1, false)), (169, (1, false)), (170, (1, false)), (171, (1, false)), (172, (1, false)), (173, (1, false)), (174, (11, true)), (175, (11, true)), (176, (1, false)), (177, (2, true)), (178, (2, true)), (179, (1, true)), (180, (1, true)), (181, (1, false))],
  [(22, 1), (23, 5), (24, 2), (31, 8), (58, 5), (59, 4), (61, 16), (125, 1)],
  [], [(2, .i64), (3, .i64), (5, .u8), (6, .u8), (12, .u64), (21, .i32), (27, .u16), (40, .i16), (53, .u32), (73, .u64), (99, .u64), (132, .u64), (147, .i64), (154, .u64), (168, .u8), (169, .u8), (172, .i32), (173, .i32)], [57],
  [(43, .bool), (37, .i16), (36, .u16), (30, .i32), (44, .i64), (33, .uuid), (32, .str), (31, .cstr), (42, .nstr), (41, .cnstr)], [(35, .al), (34, .cal)], 38, 39, 40, 5, false⟩
theorem nTabOK : TabOK Tryz.prog nT := tabB_ok (by kernel_rfl)
theorem nConts : Conts Tryz.prog nT := by
  refine ⟨?_, ?_, ⟨AppendUvarint_any, Tryz.call38⟩, ⟨c_TagsLen, Tryz.call39⟩, ⟨c_AppendEach, Tryz.call40⟩⟩
  · intro f p h
    simp only [nT, List.mem_cons, Prod.mk.injEq, List.not_mem_nil, or_false] at h
    rcases h with ⟨rfl, rfl⟩ | ⟨rfl, rfl⟩ | ⟨rfl, rfl⟩ | ⟨rfl, rfl⟩ | ⟨rfl, rfl⟩ | ⟨rfl, rfl⟩ | ⟨rfl, rfl⟩ | ⟨rfl, rfl⟩ | ⟨rfl, rfl⟩ | ⟨rfl, rfl⟩
    · exact ⟨c_AppendBool, Tryz.call43⟩
    · exact ⟨c_AppendInt16, Tryz.call37⟩
    · exact ⟨c_AppendUint16, Tryz.call36⟩
    · exact ⟨c_AppendInt32, Tryz.call30⟩
    · exact ⟨c_AppendInt64, Tryz.call44⟩
    · exact ⟨c_AppendUuid, Tryz.call33⟩
    · exact ⟨c_AppendString, Tryz.call32⟩
    · exact ⟨c_AppendCompactString, Tryz.call31⟩
    · exact ⟨c_AppendNullableString, Tryz.call42⟩
    · exact ⟨c_AppendCompactNullableString, Tryz.call41⟩
  · intro f p h
    simp only [nT, List.mem_cons, Prod.mk.injEq, List.not_mem_nil, or_false] at h
    rcases h with ⟨rfl, rfl⟩ | ⟨rfl, rfl⟩
    · exact ⟨c_AppendArrayLen, Tryz.call35⟩
    · exact ⟨c_AppendCompactArrayLen, Tryz.call34⟩
/-! ## defaults -/
theorem dc_20 : DContract Tryz.prog 20 26 [(24, .int .i64 (-1))] :=
  calls_default nTabOK (dt := []) (fun f n ss h => by cases h) Tryz.func20 rfl rfl rfl (m := 2000) (by kernel_rfl)
theorem dc_62 : DContract Tryz.prog 62 5 [] :=
  calls_default nTabOK (dt := []) (fun f n ss h => by cases h) Tryz.func62 rfl rfl rfl (m := 2000) (by kernel_rfl)
theorem dc_66 : DContract Tryz.prog 66 4 [] :=
  calls_default nTabOK (dt := []) (fun f n ss h => by cases h) Tryz.func66 rfl rfl rfl (m := 2000) (by kernel_rfl)
/-! ## reading -/
def aR : TabR :=
  ⟨[(71, .bool), (64, .i16), (63, .u16), (52, .i32), (72, .i64), (57, .uuid), (56, .str), (55, .cstr), (70, .nstr), (68, .cnstr)], [(59, false), (58, true)], 60, 61, 65,
  [(20, (26, [(24, .int .i64 (-1))])), (62, (5, [])), (66, (4, []))],
  [(22, ([.int .u8], [.int .u8 0])),
   (58, ([.str, .str, .int .u16, .int .i16, .tags false], [.string ByteArray.empty, .string ByteArray.empty, .int .u16 0, .int .i16 0, .map none])),
   (59, ([.str, .int .i16, .int .i16, .tags false], [.string ByteArray.empty, .int .i16 0, .int .i16 0, .map none])),
   (61, ([.int .u8, .int .u8, .int .u8, .int .u8, .int .u8, .int .u8, .int .u8, .int .u8, .int .u8, .int .u8, .int .u8, .int .u8, .int .u8, .int .u8, .int .u8, .int .u8], [.int .u8 0, .int .u8 0, .int .u8 0, .int .u8 0, .int .u8 0, .int .u8 0, .int .u8 0, .int .u8 0, .int .u8 0, .int .u8 0, .int .u8 0, .int .u8 0, .int .u8 0, .int .u8 0, .int .u8 0, .int .u8 0])),
   (125, ([.int .u32], [.int .u32 0]))]⟩
theorem aROK (E : Value) : TabROK Tryz.prog aR 101 1 E := by
  refine ⟨?_, ?_, ⟨rd_Ok, Tryz.call60⟩, ⟨rd_Complete _ E rfl, Tryz.call61⟩, ⟨rd_Tags, Tryz.call65⟩, ?_, elB_ok (by kernel_rfl)⟩
  · intro f p h
    simp only [aR, List.mem_cons, Prod.mk.injEq, List.not_mem_nil, or_false] at h
    rcases h with ⟨rfl, rfl⟩ | ⟨rfl, rfl⟩ | ⟨rfl, rfl⟩ | ⟨rfl, rfl⟩ | ⟨rfl, rfl⟩ | ⟨rfl, rfl⟩ | ⟨rfl, rfl⟩ | ⟨rfl, rfl⟩ | ⟨rfl, rfl⟩ | ⟨rfl, rfl⟩
    · exact ⟨rd_Bool, Tryz.call71⟩
    · exact ⟨rd_Int16, Tryz.call64⟩
    · exact ⟨rd_Uint16, Tryz.call63⟩
    · exact ⟨rd_Int32, Tryz.call52⟩
    · exact ⟨rd_Int64, Tryz.call72⟩
    · exact ⟨rd_Uuid, Tryz.call57⟩
    · exact ⟨rd_String, Tryz.call56⟩
    · exact ⟨rd_CompactString, Tryz.call55⟩
    · exact ⟨rd_NullableString, Tryz.call70⟩
    · exact ⟨rd_CompactNullableString, Tryz.call68⟩
  · intro f p h
    simp only [aR, List.mem_cons, Prod.mk.injEq, List.not_mem_nil, or_false] at h
    rcases h with ⟨rfl, rfl⟩ | ⟨rfl, rfl⟩
    · exact ⟨rd_ArrayLen, Tryz.call59⟩
    · exact ⟨rd_CompactArrayLen, Tryz.call58⟩
  · intro f n ss h
    simp only [aR, List.mem_cons, Prod.mk.injEq, List.not_mem_nil, or_false] at h
    rcases h with ⟨rfl, rfl, rfl⟩ | ⟨rfl, rfl, rfl⟩ | ⟨rfl, rfl, rfl⟩
    · exact ⟨dc_20, Tryz.call20⟩
    · exact ⟨dc_62, Tryz.call62⟩
    · exact ⟨dc_66, Tryz.call66⟩
theorem rBuild (A : Option Addr) (n c : Nat) : Tryz.prog.built 101 [(0, .slice A n c)] = some #[.slice A n c, .bool false] := by kernel_rfl
theorem rInfo : Tryz.prog.info? 101 = some Tryz.t101 := by kernel_rfl
end Go.Proofs.YthejiimocbfagabGreatDoor
