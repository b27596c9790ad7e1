/-
  The tables of the executors over this program, and that they fit.
-/
import Derived.Test.YthcljbnfmgfljaaGreatDoorRK6
import Derived.Test.YthcljbnfmgfljaaGreatDoorRK7
import Derived.Test.YthcljbnfmgfljaaGreatDoorSpecS
import Derived.Test.YthcljbnfmgfljaaGreatDoorRAgain
set_option linter.unusedVariables false
set_option linter.unusedSimpArgs false
namespace Go.Proofs.YthcljbnfmgfljaaGreatDoor
open Go Go.RowKit Go.Proofs.Eng
set_option maxRecDepth 20000
set_option maxHeartbeats 4000000

def nT : Tab :=
  ⟨[(7, [0, 1, 2, 3]), (8, [0, 1, 2, 3]), (13, [0, 1]), (14, [0, 1]), (18, [0]), (19, [0]), (25, [0, 1, 2, 3, 4]), (26, [0, 1, 2, 3, 4]), (32, [0, 1]), (33, [0, 1]), (45, [0, 1, 2, 3, 4, 5, 6, 7]), (46, [0, 1, 2, 3, 4, 5, 6, 7]), (54, [0, 1]), (55, [0, 1]), (59, [0]), (60, [0]), (61, [0, 1, 2, 3]), (62, [0, 1, 2, 3]), (77, [0, 1, 17, 18]), (78, [0, 1, 17, 18]), (82, [0, 1, 2]), (83, [0, 1, 2]), (94, [0, 1]), (95, [0, 1]), (122, [0, 1, 2]), (123, [0, 1, 2]), (129, [0, 1]), (130, [0, 1]), (131, [0]), (132, [0]), (153, [0, 1, 2, 3]), (154, [0, 1, 2, 3]), (164, [0, 1, 2, 3, 4, 5, 6, 7, 8, 9, 10]), (165, [0, 1, 2, 3, 4, 5, 6, 7, 8, 9, 10]), (167, [0, 1]), (168, [0, 1]), (169, [0]), (170, [0])],
  [(1, (1, false)), (2, (1, false)), (3, (1, false)), (4, (1, false)), (5, (1, false)), (6, (1, false)), (7, (4, true)), (8, (4, true)), (9, (1, false)), (10, (1, false)), (11, (1, false)), (12, (1, false)), (13, (2, true)), (14, (2, true)), (15, (1, false)), (16, (1, false)), (17, (1, false)), (18, (1, true)), (19, (1, true)), (20, (1, false)), (21, (1, false)), (22, (1, false)), (23, (1, false)), (24, (1, false)), (25, (5, true)), (26, (5, true)), (27, (1, false)), (28, (1, false)), (29, (1, false)), (30, (1, false)), (31, (1, false)), (32, (2, true)), (33, (2, true)), (34, (1, false)), (35, (1, false)), (37, (1, false)), (38, (1, false)), (39, (1, false)), (40, (1, false)), (41, (1, false)), (42, (1, false)), (43, (1, false)), (44, (1, false)), (45, (8, true)), (46, (8, true)), (47, (1, false)), (48, (1, false)), (49, (1, false)), (50, (1, false)), (51, (1, false)), (52, (1, false)), (53, (1, false)), (54, (2, true)), (55, (2, true)), (56, (1, false)), (57, (1, false)), (58, (1, false)), (59, (1, true)), (60, (1, true)), (61, (4, true)), (62, (4, true)), (63, (1, false)), (64, (1, false)), (65, (1, false)), (66, (1, false)), (67, (1, false)), (68, (1, false)), (69, (1, false)), (70, (1, false)), (71, (1, false)), (72, (1, false)), (73, (1, false)), (74, (1, false)), (75, (16, true)), (76, (1, false)), (77, (19, true)), (78, (19, true)), (79, (1, false)), (80, (1, false)), (81, (1, false)), (82, (3, true)), (83, (3, true)), (84, (1, false)), (85, (1, false)), (86, (1, false)), (87, (1, false)), (88, (1, false)), (89, (1, false)), (90, (1, false)), (91, (1, false)), (92, (1, false)), (93, (1, false)), (94, (2, true)), (95, (2, true)), (96, (1, false)), (97, (1, false)), (98, (1, false)), (99, (1, false)), (100, (1, false)), (101, (1, false)), (102, (1, false)), (103, (1, false)), (104, (1, false)), (105, (1, false)), (106, (1, false)), (107, (1, false)), (108, (0, true)), (109, (0, true)), (110, (1, false)), (111, (1, false)), (112, (1, false)), (113, (1, false)), (114, (1, false)), (115, (1, false)), (116, (1, false)), (117, (1, false)), (119, (1, false)), (120, (1, false)), (121, (1, false)), (122, (3, true)), (123, (3, true)), (124, (1, false)), (125, (1, false)), (126, (1, false)), (127, (1, false)), (128, (1, false)), (129, (2, true)), (130, (2, true)), (131, (1, true)), (132, (1, true)), (133, (1, false)), (134, (1, false)), (135, (1, false)), (136, (1, false)), (138, (1, false)), (139, (1, false)), (140, (1, false)), (142, (1, false)), (143, (1, false)), (144, (1, false)), (145, (1, false)), (146, (1, false)), (147, (1, false)), (148, (1, false)), (149, (1, false)), (151, (1, false)), (152, (1, false)), (153, (4, true)), (154, (4, true)), (155, (0, true)), (156, (0, true)), (157, (0, true)), (158, (1, false)), (159, (1, false)), (160, (1, false)), (161, (1, false)), (162, (1, false)), (163, (1, false)), (164, (11, true)), (165, (11, true)), (166, (1, false)), (167, (2, true)), (168, (2, true)), (169, (1, true)), (170, (1, true)), (171, (1, false))],
  [(22, 1), (23, 5), (24, 2), (31, 8), (57, 19), (76, 3), (115, 1)],
  [], [(2, .i64), (3, .i64), (5, .u8), (6, .u8), (12, .u64), (21, .i32), (27, .u16), (40, .i16), (53, .u32), (69, .u64), (93, .u64), (121, .u64), (136, .i64), (143, .u64), (158, .u8), (159, .u8), (162, .i32), (163, .i32)], [75],
  [(36, .i16), (62, .u16), (30, .i32), (35, .uuid), (34, .str), (33, .cstr)], [(32, .al), (31, .cal)], 37, 38, 39, 5, false⟩
theorem nTabOK : TabOK Tryz.prog nT := tabB_ok (by kernel_rfl)
theorem nConts : Conts Tryz.prog nT := by
  refine ⟨?_, ?_, ⟨AppendUvarint_any, Tryz.call37⟩, ⟨c_TagsLen, Tryz.call38⟩, ⟨c_AppendEach, Tryz.call39⟩⟩
  · intro f p h
    simp only [nT, List.mem_cons, Prod.mk.injEq, List.not_mem_nil, or_false] at h
    rcases h with ⟨rfl, rfl⟩ | ⟨rfl, rfl⟩ | ⟨rfl, rfl⟩ | ⟨rfl, rfl⟩ | ⟨rfl, rfl⟩ | ⟨rfl, rfl⟩
    · exact ⟨c_AppendInt16, Tryz.call36⟩
    · exact ⟨c_AppendUint16, Tryz.call62⟩
    · exact ⟨c_AppendInt32, Tryz.call30⟩
    · exact ⟨c_AppendUuid, Tryz.call35⟩
    · exact ⟨c_AppendString, Tryz.call34⟩
    · exact ⟨c_AppendCompactString, Tryz.call33⟩
  · intro f p h
    simp only [nT, List.mem_cons, Prod.mk.injEq, List.not_mem_nil, or_false] at h
    rcases h with ⟨rfl, rfl⟩ | ⟨rfl, rfl⟩
    · exact ⟨c_AppendArrayLen, Tryz.call32⟩
    · exact ⟨c_AppendCompactArrayLen, Tryz.call31⟩
/-! ## defaults -/
theorem dc_19 : DContract Tryz.prog 19 4 [] :=
  calls_default nTabOK (dt := []) (fun f n ss h => by cases h) Tryz.func19 rfl rfl rfl (m := 2000) (by kernel_rfl)
theorem dc_52 : DContract Tryz.prog 52 19 [] :=
  calls_default nTabOK (dt := []) (fun f n ss h => by cases h) Tryz.func52 rfl rfl rfl (m := 2000) (by kernel_rfl)
theorem dc_58 : DContract Tryz.prog 58 3 [] :=
  calls_default nTabOK (dt := []) (fun f n ss h => by cases h) Tryz.func58 rfl rfl rfl (m := 2000) (by kernel_rfl)
/-! ## reading -/
def aR : TabR :=
  ⟨[(59, .i16), (47, .i32), (57, .uuid), (56, .str), (55, .cstr)], [(49, false), (48, true)], 50, 51, 60,
  [(19, (4, [])), (52, (19, [])), (58, (3, []))],
  [(22, ([.int .u8], [.int .u8 0])),
   (57, ([.str, .int .u8, .int .u8, .int .u8, .int .u8, .int .u8, .int .u8, .int .u8, .int .u8, .int .u8, .int .u8, .int .u8, .int .u8, .int .u8, .int .u8, .int .u8, .int .u8, .arr [.int .i32, .int .i16, .tags false], .tags false], [.string ByteArray.empty, .int .u8 0, .int .u8 0, .int .u8 0, .int .u8 0, .int .u8 0, .int .u8 0, .int .u8 0, .int .u8 0, .int .u8 0, .int .u8 0, .int .u8 0, .int .u8 0, .int .u8 0, .int .u8 0, .int .u8 0, .int .u8 0, .slice none 0 0, .map none])),
   (76, ([.int .i32, .int .i16, .tags false], [.int .i32 0, .int .i16 0, .map none])),
   (115, ([.int .u32], [.int .u32 0]))]⟩
theorem aROK (E : Value) : TabROK Tryz.prog aR 95 1 E := by
  refine ⟨?_, ?_, ⟨rd_Ok, Tryz.call50⟩, ⟨rd_Complete _ E rfl, Tryz.call51⟩, ⟨rd_Tags, Tryz.call60⟩, ?_, elB_ok (by kernel_rfl)⟩
  · intro f p h
    simp only [aR, List.mem_cons, Prod.mk.injEq, List.not_mem_nil, or_false] at h
    rcases h with ⟨rfl, rfl⟩ | ⟨rfl, rfl⟩ | ⟨rfl, rfl⟩ | ⟨rfl, rfl⟩ | ⟨rfl, rfl⟩
    · exact ⟨rd_Int16, Tryz.call59⟩
    · exact ⟨rd_Int32, Tryz.call47⟩
    · exact ⟨rd_Uuid, Tryz.call57⟩
    · exact ⟨rd_String, Tryz.call56⟩
    · exact ⟨rd_CompactString, Tryz.call55⟩
  · intro f p h
    simp only [aR, List.mem_cons, Prod.mk.injEq, List.not_mem_nil, or_false] at h
    rcases h with ⟨rfl, rfl⟩ | ⟨rfl, rfl⟩
    · exact ⟨rd_ArrayLen, Tryz.call49⟩
    · exact ⟨rd_CompactArrayLen, Tryz.call48⟩
  · intro f n ss h
    simp only [aR, List.mem_cons, Prod.mk.injEq, List.not_mem_nil, or_false] at h
    rcases h with ⟨rfl, rfl, rfl⟩ | ⟨rfl, rfl, rfl⟩ | ⟨rfl, rfl, rfl⟩
    · exact ⟨dc_19, Tryz.call19⟩
    · exact ⟨dc_52, Tryz.call52⟩
    · exact ⟨dc_58, Tryz.call58⟩
theorem rBuild (A : Option Addr) (n c : Nat) : Tryz.prog.built 95 [(0, .slice A n c)] = some #[.slice A n c, .bool false] := by kernel_rfl
theorem rInfo : Tryz.prog.info? 95 = some Tryz.t95 := by kernel_rfl
end Go.Proofs.YthcljbnfmgfljaaGreatDoor
