/-
  The tables of the executors over this program, and that they fit.
-/
import Derived.Test.YtecjbmbphmmlbaaDoorRK6
import Derived.Test.YtecjbmbphmmlbaaDoorRK7
import Derived.Test.YtecjbmbphmmlbaaDoorSpecS
import Derived.Test.YtecjbmbphmmlbaaDoorRAgain
import Derived.Test.YtecjbmbphmmlbaaDoorKWrite
set_option linter.unusedVariables false
set_option linter.unusedSimpArgs false
namespace Go.Proofs.YtecjbmbphmmlbaaDoor
open Go Go.RowKit Go.Proofs.Eng
set_option maxRecDepth 20000
set_option maxHeartbeats 4000000

noncomputable def nT : Tab :=
  ⟨[(7, [0, 1, 2, 3]), (8, [0, 1, 2, 3]), (13, [0, 1]), (14, [0, 1]), (18, [0]), (19, [0]), (40, [0]), (41, [0]), (42, [0, 1, 2, 3]), (43, [0, 1, 2, 3]), (51, [0, 1, 17, 18, 19, 20, 21, 22, 23]), (52, [0, 1, 17, 18, 19, 20, 21, 22, 23]), (60, [0, 1, 2, 3, 4, 5]), (61, [0, 1, 2, 3, 4, 5]), (67, [0, 1]), (68, [0, 1]), (98, [0, 1, 2]), (99, [0, 1, 2]), (105, [0, 1]), (106, [0, 1]), (107, [0]), (108, [0]), (130, [0, 1, 2, 3]), (131, [0, 1, 2, 3]), (141, [0, 1, 2, 3, 4, 5, 6, 7, 8, 9, 10]), (142, [0, 1, 2, 3, 4, 5, 6, 7, 8, 9, 10]), (144, [0, 1]), (145, [0, 1]), (146, [0]), (147, [0])],
  [(1, (1, false)), (2, (1, false)), (3, (1, false)), (4, (1, false)), (5, (1, false)), (6, (1, false)), (7, (4, true)), (8, (4, true)), (9, (1, false)), (10, (1, false)), (11, (1, false)), (12, (1, false)), (13, (2, true)), (14, (2, true)), (15, (1, false)), (16, (1, false)), (17, (1, false)), (18, (1, true)), (19, (1, true)), (20, (1, false)), (21, (1, false)), (22, (1, false)), (23, (1, false)), (25, (1, false)), (26, (1, false)), (27, (1, false)), (28, (1, false)), (29, (1, false)), (30, (1, false)), (31, (1, false)), (32, (1, false)), (33, (1, false)), (34, (1, false)), (35, (1, false)), (36, (1, false)), (37, (1, false)), (38, (1, false)), (39, (1, false)), (40, (1, true)), (41, (1, true)), (42, (4, true)), (43, (4, true)), (44, (1, false)), (45, (1, false)), (46, (1, false)), (47, (1, false)), (48, (16, true)), (49, (1, false)), (50, (1, false)), (51, (24, true)), (52, (24, true)), (53, (1, false)), (54, (1, false)), (55, (1, false)), (56, (1, false)), (57, (1, false)), (58, (1, false)), (59, (1, false)), (60, (6, true)), (61, (6, true)), (62, (1, false)), (63, (1, false)), (64, (1, false)), (65, (1, false)), (66, (1, false)), (67, (2, true)), (68, (2, true)), (69, (1, false)), (70, (1, false)), (71, (1, false)), (72, (1, false)), (73, (1, false)), (74, (1, false)), (75, (1, false)), (76, (1, false)), (77, (1, false)), (78, (1, false)), (79, (1, false)), (80, (1, false)), (81, (1, false)), (82, (1, false)), (83, (1, false)), (84, (1, false)), (85, (1, false)), (86, (1, false)), (87, (0, true)), (88, (0, true)), (89, (1, false)), (90, (1, false)), (91, (1, false)), (93, (1, false)), (94, (1, false)), (95, (1, false)), (96, (1, false)), (97, (1, false)), (98, (3, true)), (99, (3, true)), (100, (1, false)), (101, (1, false)), (102, (1, false)), (103, (1, false)), (104, (1, false)), (105, (2, true)), (106, (2, true)), (107, (1, true)), (108, (1, true)), (109, (1, false)), (110, (1, false)), (111, (1, false)), (112, (1, false)), (113, (1, false)), (115, (1, false)), (116, (1, false)), (117, (1, false)), (119, (1, false)), (120, (1, false)), (121, (1, false)), (122, (1, false)), (123, (1, false)), (124, (1, false)), (125, (1, false)), (126, (1, false)), (128, (1, false)), (129, (1, false)), (130, (4, true)), (131, (4, true)), (132, (0, true)), (133, (0, true)), (134, (0, true)), (135, (1, false)), (136, (1, false)), (137, (1, false)), (138, (1, false)), (139, (1, false)), (140, (1, false)), (141, (11, true)), (142, (11, true)), (143, (1, false)), (144, (2, true)), (145, (2, true)), (146, (1, true)), (147, (1, true)), (148, (1, false))],
  [(22, 1), (38, 24), (50, 6), (66, 1)],
  [], [(2, .i64), (3, .i64), (5, .u8), (6, .u8), (12, .u64), (21, .i32), (29, .i16), (59, .i8), (65, .u32), (82, .u16), (84, .u64), (97, .u64), (111, .u64), (113, .i64), (120, .u64), (135, .u8), (136, .u8), (139, .i32), (140, .i32)], [48],
  [(26, .bool), (27, .i8), (21, .i16), (55, .u16), (15, .i32), (20, .uuid), (19, .str), (18, .cstr), (23, .nstr), (22, .cnstr)], [(17, .al), (16, .cal), (25, .nal), (24, .cnal)], 28, 29, 30, 5, false, [hookWr]⟩
theorem nTabOK : TabOK Tryd.prog nT := tabB_ok (by kernel_rfl)
theorem nConts : Conts Tryd.prog nT := by
  refine ⟨?_, ?_, ⟨AppendUvarint_any, Tryd.call28⟩, ⟨c_TagsLen, Tryd.call29⟩, ⟨c_AppendEach, Tryd.call30⟩, ?_⟩
  · intro f p h
    simp only [nT, List.mem_cons, Prod.mk.injEq, List.not_mem_nil, or_false] at h
    rcases h with ⟨rfl, rfl⟩ | ⟨rfl, rfl⟩ | ⟨rfl, rfl⟩ | ⟨rfl, rfl⟩ | ⟨rfl, rfl⟩ | ⟨rfl, rfl⟩ | ⟨rfl, rfl⟩ | ⟨rfl, rfl⟩ | ⟨rfl, rfl⟩ | ⟨rfl, rfl⟩
    · exact ⟨c_AppendBool, Tryd.call26⟩
    · exact ⟨c_AppendInt8, Tryd.call27⟩
    · exact ⟨c_AppendInt16, Tryd.call21⟩
    · exact ⟨c_AppendUint16, Tryd.call55⟩
    · exact ⟨c_AppendInt32, Tryd.call15⟩
    · exact ⟨c_AppendUuid, Tryd.call20⟩
    · exact ⟨c_AppendString, Tryd.call19⟩
    · exact ⟨c_AppendCompactString, Tryd.call18⟩
    · exact ⟨c_AppendNullableString, Tryd.call23⟩
    · exact ⟨c_AppendCompactNullableString, Tryd.call22⟩
  · intro f p h
    simp only [nT, List.mem_cons, Prod.mk.injEq, List.not_mem_nil, or_false] at h
    rcases h with ⟨rfl, rfl⟩ | ⟨rfl, rfl⟩ | ⟨rfl, rfl⟩ | ⟨rfl, rfl⟩
    · exact ⟨c_AppendArrayLen, Tryd.call17⟩
    · exact ⟨c_AppendCompactArrayLen, Tryd.call16⟩
    · exact ⟨c_AppendNullableArrayLen, Tryd.call25⟩
    · exact ⟨c_AppendCompactNullableArrayLen, Tryd.call24⟩
  · intro H h
    simp only [nT, List.mem_cons, List.not_mem_nil, or_false] at h
    subst h
    exact hw_ok
/-! ## defaults -/
theorem dc_13 : DContract Tryd.prog 13 4 [] :=
  calls_default nTabOK (dt := []) (fun f n ss h => by cases h) Tryd.func13 rfl rfl rfl (m := 2000) (by kernel_rfl)
theorem dc_36 : DContract Tryd.prog 36 24 [(20, .int .i32 (-1)), (21, .int .i16 (-1))] :=
  calls_default nTabOK (dt := []) (fun f n ss h => by cases h) Tryd.func36 rfl rfl rfl (m := 2000) (by kernel_rfl)
theorem dc_47 : DContract Tryd.prog 47 6 [(3, .int .i8 (-1))] :=
  calls_default nTabOK (dt := []) (fun f n ss h => by cases h) Tryd.func47 rfl rfl rfl (m := 2000) (by kernel_rfl)
/-! ## reading -/
noncomputable def aR : TabR :=
  ⟨[(48, .bool), (49, .i8), (42, .i16), (31, .i32), (41, .uuid), (40, .str), (39, .cstr), (46, .nstr), (44, .cnstr)], [(33, false), (32, true)], 34, 35, 50,
  [(13, (4, [])), (36, (24, [(20, .int .i32 (-1)), (21, .int .i16 (-1))])), (47, (6, [(3, .int .i8 (-1))]))],
  [(22, ([.int .u8], [.int .u8 0])),
   (38, ([.str, .int .u8, .int .u8, .int .u8, .int .u8, .int .u8, .int .u8, .int .u8, .int .u8, .int .u8, .int .u8, .int .u8, .int .u8, .int .u8, .int .u8, .int .u8, .int .u8, .int .i16, .pstr, .int .i16, .int .i32, .int .i16, .arr [.str, .pstr, .bool, .int .i8, .bool, .tags false], .tags false], [.string ByteArray.empty, .int .u8 0, .int .u8 0, .int .u8 0, .int .u8 0, .int .u8 0, .int .u8 0, .int .u8 0, .int .u8 0, .int .u8 0, .int .u8 0, .int .u8 0, .int .u8 0, .int .u8 0, .int .u8 0, .int .u8 0, .int .u8 0, .int .i16 0, .pointer none, .int .i16 0, .int .i32 0, .int .i16 0, .slice none 0 0, .map none])),
   (50, ([.str, .pstr, .bool, .int .i8, .bool, .tags false], [.string ByteArray.empty, .pointer none, .bool false, .int .i8 0, .bool false, .map none])),
   (66, ([.int .u32], [.int .u32 0]))], [hookRd]⟩
theorem aROK (E : Value) (hE : ∃ u q, E = .iface u q) : TabROK Tryd.prog aR 68 1 E := by
  refine ⟨?_, ?_, ⟨rd_Ok, Tryd.call34⟩, ⟨rd_Complete _ E rfl, Tryd.call35⟩, ⟨rd_Tags, Tryd.call50⟩, ?_, elB_ok (by kernel_rfl), ?_⟩
  · intro f p h
    simp only [aR, List.mem_cons, Prod.mk.injEq, List.not_mem_nil, or_false] at h
    rcases h with ⟨rfl, rfl⟩ | ⟨rfl, rfl⟩ | ⟨rfl, rfl⟩ | ⟨rfl, rfl⟩ | ⟨rfl, rfl⟩ | ⟨rfl, rfl⟩ | ⟨rfl, rfl⟩ | ⟨rfl, rfl⟩ | ⟨rfl, rfl⟩
    · exact ⟨rd_Bool, Tryd.call48⟩
    · exact ⟨rd_Int8, Tryd.call49⟩
    · exact ⟨rd_Int16, Tryd.call42⟩
    · exact ⟨rd_Int32, Tryd.call31⟩
    · exact ⟨rd_Uuid, Tryd.call41⟩
    · exact ⟨rd_String, Tryd.call40⟩
    · exact ⟨rd_CompactString, Tryd.call39⟩
    · exact ⟨rd_NullableString, Tryd.call46⟩
    · exact ⟨rd_CompactNullableString, Tryd.call44⟩
  · intro f p h
    simp only [aR, List.mem_cons, Prod.mk.injEq, List.not_mem_nil, or_false] at h
    rcases h with ⟨rfl, rfl⟩ | ⟨rfl, rfl⟩
    · exact ⟨rd_ArrayLen, Tryd.call33⟩
    · exact ⟨rd_CompactArrayLen, Tryd.call32⟩
  · intro f n ss h
    simp only [aR, List.mem_cons, Prod.mk.injEq, List.not_mem_nil, or_false] at h
    rcases h with ⟨rfl, rfl, rfl⟩ | ⟨rfl, rfl, rfl⟩ | ⟨rfl, rfl, rfl⟩
    · exact ⟨dc_13, Tryd.call13⟩
    · exact ⟨dc_36, Tryd.call36⟩
    · exact ⟨dc_47, Tryd.call47⟩
  · intro H h
    simp only [aR, List.mem_cons, List.not_mem_nil, or_false] at h
    subst h
    exact hr_ok hE
theorem rBuild (A : Option Addr) (n c : Nat) : Tryd.prog.built 68 [(0, .slice A n c)] = some #[.slice A n c, .bool false] := by kernel_rfl
theorem rInfo : Tryd.prog.info? 68 = some Tryd.t68 := by kernel_rfl
end Go.Proofs.YtecjbmbphmmlbaaDoor
