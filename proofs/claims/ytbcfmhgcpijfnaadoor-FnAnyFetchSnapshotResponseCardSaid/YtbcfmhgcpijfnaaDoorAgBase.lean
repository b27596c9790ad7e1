/-
  The tables of the executors over this program, and that they fit.
-/
import Derived.Test.YtbcfmhgcpijfnaaDoorRK6
import Derived.Test.YtbcfmhgcpijfnaaDoorRK7
import Derived.Test.YtbcfmhgcpijfnaaDoorSpecS
import Derived.Test.YtbcfmhgcpijfnaaDoorRAgain
import Derived.Test.YtbcfmhgcpijfnaaDoorKReadT
import Derived.Test.YtbcfmhgcpijfnaaDoorKWriteP
import Derived.Test.YtbcfmhgcpijfnaaDoorKWriteT
set_option linter.unusedVariables false
set_option linter.unusedSimpArgs false
namespace Go.Proofs.YtbcfmhgcpijfnaaDoor
open Go Go.RowKit Go.Proofs.Eng
set_option maxRecDepth 20000
set_option maxHeartbeats 4000000

def nT0 : Tab :=
  ⟨[(7, [0, 1, 2, 3]), (8, [0, 1, 2, 3]), (13, [0, 1]), (14, [0, 1]), (18, [0]), (19, [0]), (41, [0]), (42, [0]), (43, [0, 1, 2, 3, 4, 5]), (44, [0, 1, 2, 3, 4, 5]), (51, [0, 1, 2]), (52, [0, 1, 2]), (55, [0, 1, 2]), (56, [0, 1, 2]), (57, [0, 1, 2]), (58, [0, 1, 2]), (59, [0, 1, 2, 5, 8, 9, 10, 11]), (60, [0, 1, 2, 5, 8, 9, 10, 11]), (71, [0, 1, 2, 3]), (72, [0, 1, 2, 3]), (74, [0, 1]), (75, [0, 1]), (109, [0, 1, 2]), (110, [0, 1, 2]), (116, [0, 1]), (117, [0, 1]), (118, [0]), (119, [0]), (139, [0, 1, 2, 3]), (140, [0, 1, 2, 3]), (150, [0, 1, 2, 3, 4, 5, 6, 7, 8, 9, 10]), (151, [0, 1, 2, 3, 4, 5, 6, 7, 8, 9, 10]), (152, [0, 1]), (153, [0, 1]), (154, [0]), (155, [0])],
  [(1, (1, false)), (2, (1, false)), (3, (1, false)), (4, (1, false)), (5, (1, false)), (6, (1, false)), (7, (4, true)), (8, (4, true)), (9, (1, false)), (10, (1, false)), (11, (1, false)), (12, (1, false)), (13, (2, true)), (14, (2, true)), (15, (1, false)), (16, (1, false)), (17, (1, false)), (18, (1, true)), (19, (1, true)), (20, (1, false)), (21, (1, false)), (22, (1, false)), (23, (1, false)), (25, (1, false)), (26, (1, false)), (27, (1, false)), (28, (1, false)), (29, (1, false)), (30, (1, false)), (31, (1, false)), (32, (1, false)), (33, (1, false)), (34, (1, false)), (35, (1, false)), (36, (1, false)), (37, (1, false)), (38, (1, false)), (39, (1, false)), (40, (1, false)), (41, (1, true)), (42, (1, true)), (43, (6, true)), (44, (6, true)), (45, (1, false)), (46, (1, false)), (47, (1, false)), (48, (1, false)), (49, (1, false)), (50, (1, false)), (51, (3, true)), (52, (3, true)), (53, (1, false)), (54, (1, false)), (55, (3, true)), (56, (3, true)), (57, (3, true)), (58, (3, true)), (59, (12, true)), (60, (12, true)), (61, (1, false)), (62, (1, false)), (63, (1, false)), (64, (1, false)), (65, (1, false)), (66, (1, false)), (67, (1, false)), (68, (1, false)), (69, (1, false)), (70, (1, false)), (71, (4, true)), (72, (4, true)), (73, (1, false)), (74, (2, true)), (75, (2, true)), (76, (1, false)), (77, (1, false)), (78, (1, false)), (79, (1, false)), (80, (1, false)), (81, (1, false)), (82, (1, false)), (83, (1, false)), (84, (1, false)), (85, (1, false)), (86, (1, false)), (87, (1, false)), (88, (1, false)), (89, (1, false)), (90, (1, false)), (91, (1, false)), (92, (1, false)), (93, (1, false)), (94, (1, false)), (95, (1, false)), (96, (0, true)), (97, (0, true)), (98, (1, false)), (99, (1, false)), (100, (1, false)), (101, (1, false)), (103, (1, false)), (104, (1, false)), (105, (1, false)), (106, (1, false)), (107, (1, false)), (108, (1, false)), (109, (3, true)), (110, (3, true)), (111, (1, false)), (112, (1, false)), (113, (1, false)), (114, (1, false)), (115, (1, false)), (116, (2, true)), (117, (2, true)), (118, (1, true)), (119, (1, true)), (120, (1, false)), (121, (1, false)), (122, (1, false)), (123, (1, false)), (125, (1, false)), (126, (1, false)), (127, (1, false)), (129, (1, false)), (130, (1, false)), (131, (1, false)), (132, (1, false)), (133, (1, false)), (134, (1, false)), (135, (1, false)), (137, (1, false)), (138, (1, false)), (139, (4, true)), (140, (4, true)), (141, (0, true)), (142, (0, true)), (143, (0, true)), (144, (1, false)), (145, (1, false)), (146, (1, false)), (147, (1, false)), (148, (1, false)), (149, (1, false)), (150, (11, true)), (151, (11, true)), (152, (2, true)), (153, (2, true)), (154, (1, true)), (155, (1, true)), (156, (1, false))],
  [(22, 1), (38, 3), (39, 4), (50, 12), (66, 1)],
  [], [(2, .i64), (3, .i64), (5, .u8), (6, .u8), (12, .u64), (21, .i32), (29, .i16), (64, .u32), (70, .u16), (90, .u64), (92, .u64), (108, .u64), (123, .i64), (130, .u64), (144, .u8), (145, .u8), (148, .i32), (149, .i32)], [],
  [(16, .i16), (30, .u16), (15, .i32), (21, .i64), (20, .str), (19, .cstr), (26, .byt), (25, .cbyt)], [(18, .al), (17, .cal)], 22, 23, 24, 5, false, []⟩
theorem nTabOK0 : TabOK Tryd.prog nT0 := tabB_ok (by kernel_rfl)
theorem nConts0 : Conts Tryd.prog nT0 := by
  refine ⟨?_, ?_, ⟨AppendUvarint_any, Tryd.call22⟩, ⟨c_TagsLen, Tryd.call23⟩, ⟨c_AppendEach, Tryd.call24⟩, fun H h => by simp [nT0] at h⟩
  · intro f p h
    simp only [nT0, List.mem_cons, Prod.mk.injEq, List.not_mem_nil, or_false] at h
    rcases h with ⟨rfl, rfl⟩ | ⟨rfl, rfl⟩ | ⟨rfl, rfl⟩ | ⟨rfl, rfl⟩ | ⟨rfl, rfl⟩ | ⟨rfl, rfl⟩ | ⟨rfl, rfl⟩ | ⟨rfl, rfl⟩
    · exact ⟨c_AppendInt16, Tryd.call16⟩
    · exact ⟨c_AppendUint16, Tryd.call30⟩
    · exact ⟨c_AppendInt32, Tryd.call15⟩
    · exact ⟨c_AppendInt64, Tryd.call21⟩
    · exact ⟨c_AppendString, Tryd.call20⟩
    · exact ⟨c_AppendCompactString, Tryd.call19⟩
    · exact ⟨c_AppendBytes, Tryd.call26⟩
    · exact ⟨c_AppendCompactBytes, Tryd.call25⟩
  · intro f p h
    simp only [nT0, List.mem_cons, Prod.mk.injEq, List.not_mem_nil, or_false] at h
    rcases h with ⟨rfl, rfl⟩ | ⟨rfl, rfl⟩
    · exact ⟨c_AppendArrayLen, Tryd.call18⟩
    · exact ⟨c_AppendCompactArrayLen, Tryd.call17⟩
/-! ## defaults -/
theorem dc_13 : DContract Tryd.prog 13 6 [] :=
  calls_default nTabOK0 (dt := []) (fun f n ss h => by cases h) Tryd.func13 rfl rfl rfl (m := 2000) (by kernel_rfl)
theorem dc_29 : DContract Tryd.prog 29 3 [] :=
  calls_default nTabOK0 (dt := []) (fun f n ss h => by cases h) Tryd.func29 rfl rfl rfl (m := 2000) (by kernel_rfl)
theorem dc_37 : DContract Tryd.prog 37 3 [] :=
  calls_default nTabOK0 (dt := []) (fun f n ss h => by cases h) Tryd.func37 rfl rfl rfl (m := 2000) (by kernel_rfl)
theorem dc_42 : DContract Tryd.prog 42 12 [] :=
  calls_default nTabOK0 (dt := []) (fun f n ss h => by cases h) Tryd.func42 rfl rfl rfl (m := 2000) (by kernel_rfl)
theorem dc_43 : DContract Tryd.prog 43 3 [] :=
  calls_default nTabOK0 (dt := []) (fun f n ss h => by cases h) Tryd.func43 rfl rfl rfl (m := 2000) (by kernel_rfl)
theorem dc_51 : DContract Tryd.prog 51 4 [] :=
  calls_default nTabOK0 (dt := []) (fun f n ss h => by cases h) Tryd.func51 rfl rfl rfl (m := 2000) (by kernel_rfl)
/-! ## reading -/
def aR0 : TabR :=
  ⟨[(32, .i16), (52, .u16), (31, .i32), (44, .i64), (41, .str), (40, .cstr), (47, .byt), (46, .cbyt)], [(34, false), (33, true)], 35, 36, 45,
  [(13, (6, [])), (29, (3, [])), (37, (3, [])), (42, (12, [])), (43, (3, [])), (51, (4, []))],
  [(22, ([.int .u8], [.int .u8 0])),
   (38, ([.str, .arr [.int .i32, .int .i16, .int .i64, .int .i32, .tags false, .int .i32, .int .i32, .tags false, .int .i64, .int .i64, .bytes, .tags false], .tags false], [.string ByteArray.empty, .slice none 0 0, .map none])),
   (39, ([.int .i32, .str, .int .u16, .tags false], [.int .i32 0, .string ByteArray.empty, .int .u16 0, .map none])),
   (50, ([.int .i32, .int .i16, .int .i64, .int .i32, .tags false, .int .i32, .int .i32, .tags false, .int .i64, .int .i64, .bytes, .tags false], [.int .i32 0, .int .i16 0, .int .i64 0, .int .i32 0, .map none, .int .i32 0, .int .i32 0, .map none, .int .i64 0, .int .i64 0, .slice none 0 0, .map none])),
   (66, ([.int .u32], [.int .u32 0]))], []⟩
theorem aROK0 (E : Value) : TabROK Tryd.prog aR0 75 1 E := by
  refine ⟨?_, ?_, ⟨rd_Ok, Tryd.call35⟩, ⟨rd_Complete _ E rfl, Tryd.call36⟩, ⟨rd_Tags, Tryd.call45⟩, ?_, elB_ok (by kernel_rfl), fun H h => by simp [aR0] at h⟩
  · intro f p h
    simp only [aR0, List.mem_cons, Prod.mk.injEq, List.not_mem_nil, or_false] at h
    rcases h with ⟨rfl, rfl⟩ | ⟨rfl, rfl⟩ | ⟨rfl, rfl⟩ | ⟨rfl, rfl⟩ | ⟨rfl, rfl⟩ | ⟨rfl, rfl⟩ | ⟨rfl, rfl⟩ | ⟨rfl, rfl⟩
    · exact ⟨rd_Int16, Tryd.call32⟩
    · exact ⟨rd_Uint16, Tryd.call52⟩
    · exact ⟨rd_Int32, Tryd.call31⟩
    · exact ⟨rd_Int64, Tryd.call44⟩
    · exact ⟨rd_String, Tryd.call41⟩
    · exact ⟨rd_CompactString, Tryd.call40⟩
    · exact ⟨rd_Bytes, Tryd.call47⟩
    · exact ⟨rd_CompactBytes, Tryd.call46⟩
  · intro f p h
    simp only [aR0, List.mem_cons, Prod.mk.injEq, List.not_mem_nil, or_false] at h
    rcases h with ⟨rfl, rfl⟩ | ⟨rfl, rfl⟩
    · exact ⟨rd_ArrayLen, Tryd.call34⟩
    · exact ⟨rd_CompactArrayLen, Tryd.call33⟩
  · intro f n ss h
    simp only [aR0, List.mem_cons, Prod.mk.injEq, List.not_mem_nil, or_false] at h
    rcases h with ⟨rfl, rfl, rfl⟩ | ⟨rfl, rfl, rfl⟩ | ⟨rfl, rfl, rfl⟩ | ⟨rfl, rfl, rfl⟩ | ⟨rfl, rfl, rfl⟩ | ⟨rfl, rfl, rfl⟩
    · exact ⟨dc_13, Tryd.call13⟩
    · exact ⟨dc_29, Tryd.call29⟩
    · exact ⟨dc_37, Tryd.call37⟩
    · exact ⟨dc_42, Tryd.call42⟩
    · exact ⟨dc_43, Tryd.call43⟩
    · exact ⟨dc_51, Tryd.call51⟩
theorem rBuild (A : Option Addr) (n c : Nat) : Tryd.prog.built 75 [(0, .slice A n c)] = some #[.slice A n c, .bool false] := by kernel_rfl
theorem rInfo : Tryd.prog.info? 75 = some Tryd.t75 := by kernel_rfl
/-! ## pieces that read and write known tags -/
noncomputable def xR (ver : Int) : Option Res := execR nT0 aR0 351 6 6000 false 0 zsNE 0 (sgNE ver) .none [.code codeNE]
noncomputable def xW (ver : Int) : Option WP := execW nT0 [] 397 6000 none [shTop] (sgLs ver) [.code codeLs1, .code codeLs2]
noncomputable def bR (ver : Int) : RP := match xR ver with
  | some r => r.k
  | none => .nil
noncomputable def bW (ver : Int) : WP := match xW ver with
  | some (.alen .cal 4 (.loop 4 4 b .nil)) => b
  | _ => .nil
theorem bR_of {ver : Int} (h : (xR ver).isSome = true) : ∃ r, xR ver = some r ∧ r.k = bR ver := by
  obtain ⟨r, hr⟩ := Option.isSome_iff_exists.1 h
  exact ⟨r, hr, by unfold bR; rw [hr]⟩
def isLs : Option WP → Bool
  | some (.alen .cal 4 (.loop 4 4 _ .nil)) => true
  | _ => false
theorem bW_of {ver : Int} (h : isLs (xW ver) = true) : xW ver = some (.alen .cal 4 (.loop 4 4 (bW ver) .nil)) := by
  unfold bW
  unfold isLs at h
  split at h
  · rename_i b hb
    rw [hb]
  · cases h
theorem hasR_0 : (xR 0).isSome = true := by kernel_rfl
theorem hasW_0 : isLs (xW 0) = true := by kernel_rfl
theorem hasR_1 : (xR 1).isSome = true := by kernel_rfl
theorem hasW_1 : isLs (xW 1) = true := by kernel_rfl
noncomputable def nT : Tab := { nT0 with hk := [hookWrP, hookWrT 0 (bW 0), hookWrT 1 (bW 1)] }
noncomputable def aR : TabR := { aR0 with hk := [hookRdP, hookRdT 0 (bR 0), hookRdT 1 (bR 1)] }
theorem nTabOK : TabOK Tryd.prog nT := ⟨nTabOK0.structs, nTabOK0.sizes, nTabOK0.slices, nTabOK0.convs, nTabOK0.boxes⟩
theorem nConts : Conts Tryd.prog nT := by
  refine ⟨nConts0.wf, nConts0.lf, nConts0.u, nConts0.tl, nConts0.te, ?_⟩
  intro H h
  simp only [nT, List.mem_cons, List.not_mem_nil, or_false] at h
  rcases h with rfl | rfl | rfl
  · exact hwP_ok
  · exact hwT_ok nTabOK0 nConts0 rfl (n0 := 6000) (bW_of hasW_0)
  · exact hwT_ok nTabOK0 nConts0 rfl (n0 := 6000) (bW_of hasW_1)
theorem aROK (E : Value) (hE : ∃ u q, E = .iface u q) : TabROK Tryd.prog aR 75 1 E := by
  refine ⟨(aROK0 E).rf, (aROK0 E).rl, (aROK0 E).ok, (aROK0 E).cpl, (aROK0 E).tags, (aROK0 E).dt, (aROK0 E).els, ?_⟩
  intro H h
  simp only [aR, List.mem_cons, List.not_mem_nil, or_false] at h
  rcases h with rfl | rfl | rfl
  · exact hrP_ok hE
  · obtain ⟨r, h1, h2⟩ := bR_of hasR_0
    rw [← h2]
    exact hrT_ok hE nTabOK0 (aROK0 E) h1
  · obtain ⟨r, h1, h2⟩ := bR_of hasR_1
    rw [← h2]
    exact hrT_ok hE nTabOK0 (aROK0 E) h1
end Go.Proofs.YtbcfmhgcpijfnaaDoor
