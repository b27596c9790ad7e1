/-
  Pieces of code that read and write tags, one of them known: where they stand, what they turn.
-/
import Derived.Test.YtbcfmhgcpijfnaaDoorEngHk
import Derived.Test.YtbcfmhgcpijfnaaDoorRConf
import Derived.Test.YtbcfmhgcpijfnaaDoorProg
set_option linter.unusedVariables false
set_option linter.unusedSimpArgs false
namespace Go.Proofs.Eng
open Go
/-- Kinds that are the same: a test. -/
def kEqF : Nat → K → K → Bool
  | _ + 1, .int k, .int k' => ikeq k k'
  | _ + 1, .bool, .bool => true
  | _ + 1, .flt, .flt => true
  | _ + 1, .str, .str => true
  | _ + 1, .pstr, .pstr => true
  | _ + 1, .bytes, .bytes => true
  | _ + 1, .tags e, .tags e' => e == e'
  | f + 1, .arr s, .arr s' => lEq (kEqF f) s s'
  | _ + 1, .pst, .pst => true
  | _, _, _ => false
theorem kEqF_ok : ∀ (f : Nat) {a b : K}, kEqF f a b = true → a = b := by
  intro f
  induction f with
  | zero => intro a b h; cases a <;> cases b <;> cases h
  | succ f ih =>
    intro a b h
    cases a <;> cases b <;> first
      | rfl
      | cases h
      | (simp only [kEqF] at h; rw [ikeq_eq h])
      | (simp only [kEqF] at h; rw [eq_of_beq h])
      | (simp only [kEqF] at h; rw [lEq_ok (fun h => ih h) h])
end Go.Proofs.Eng
namespace Go.Proofs.YtbcfmhgcpijfnaaDoor
open Go Go.RowKit Go.Proofs.Eng
set_option maxRecDepth 20000
set_option maxHeartbeats 4000000
noncomputable def codeRdP : Code := pickC [1, 1, 1, 1, 1, 1, 1, 1, 1, 1, 0, 1, 1, 1, 1, 1, 1, 1, 0, 1, 0, 0, 1, 0, 0, 1, 1, 1, 1, 0, 1, 1, 1, 1, 1, 1, 1, 0, 1, 0, 0, 1, 0, 0, 1, 1, 1, 1, 1, 1, 1, 1, 1, 1, 0] (Tryd.f14.body.getD .skip)
noncomputable def codeRdT : Code := pickC [1, 1, 1, 1, 1, 1, 1, 1, 1, 1, 1, 0, 1, 0] (Tryd.f14.body.getD .skip)
noncomputable def codeNE : Code := pickC [1, 1, 1, 1, 1, 1, 1, 1, 1, 1, 1, 0, 1, 0, 1, 0, 0, 1, 0, 0, 1, 1, 0, 1, 0, 1, 1, 1, 1, 1, 1, 1, 1, 0, 1, 0, 0, 1, 0, 0, 1, 1] (Tryd.f14.body.getD .skip)
noncomputable def codeWrP : Code := pickC [1, 1, 1, 1, 1, 1, 1, 0, 1, 1, 1, 0, 0, 1, 1, 0, 0, 1, 1, 1, 0, 1, 1, 1, 0, 0, 1, 1, 0, 0, 1, 1, 1, 1, 1, 1, 1, 1, 1, 0] (Tryd.f12.body.getD .skip)
noncomputable def codeWrT : Code := pickC [1, 1, 1, 1, 1, 1, 1, 1, 0, 1, 0] (Tryd.f12.body.getD .skip)
noncomputable def codeLs1 : Code := pickC [1, 1, 1, 1, 1, 1, 1, 1, 0, 1, 0, 1, 1, 1, 0, 1, 0, 0, 1, 1, 0, 0, 1, 1, 0, 1, 0, 0, 1, 1, 1, 1, 1, 0] (Tryd.f12.body.getD .skip)
noncomputable def codeLs2 : Code := pickC [1, 1, 1, 1, 1, 1, 1, 1, 0, 1, 0, 1, 1, 1, 0, 1, 0, 0, 1, 1, 0, 0, 1, 1, 0, 1, 0, 0, 1, 1, 1, 1, 1, 1, 0] (Tryd.f12.body.getD .skip)
noncomputable def codeLd : Code := pickC [1, 1, 1, 1, 1, 1, 1, 0, 1, 1, 1, 0, 0, 1, 1, 0, 0, 1, 1, 1, 0, 1, 1, 1, 0, 0, 1, 1, 0, 0, 1, 1, 1, 1, 1, 1, 1, 1, 1, 0, 1, 1, 1, 0, 1, 0, 0, 1, 1, 0, 0, 1, 1, 0, 1, 0, 0, 1, 1, 1, 1, 1] (Tryd.f12.body.getD .skip)
noncomputable def codeLdR : Code := pickC [1, 1, 1, 1, 1, 1, 1, 0, 1, 1, 1, 0, 0, 1, 1, 0, 0, 1, 1, 1, 0, 1, 1, 1, 0, 0, 1, 1, 0, 0, 1, 1, 1, 1, 1, 1, 1, 1, 1, 0, 1, 1, 1, 0, 1, 0, 0, 1, 1, 0, 0, 1, 1, 0, 1, 0, 0, 1, 1, 1, 1, 1, 1, 1, 1] (Tryd.f12.body.getD .skip)
def wrLd : List Nat := [1, 30, 31, 226, 227, 228, 229, 230, 231, 232, 233, 234, 235, 236, 237, 238, 239, 240, 241, 242, 243, 244, 245]
def wrRP : List Nat := [197, 35, 198, 199, 202, 36, 203, 213, 212, 214, 215, 216, 217, 37, 218, 219, 220, 38, 221, 222, 223, 39, 224, 40, 225, 226, 227, 228, 229, 41, 230, 231, 232, 233, 234, 235, 236, 237, 238, 239, 42, 240, 241, 242, 6, 204, 205, 206, 207, 208, 209, 210, 211, 200, 201]
def wrRT : List Nat := [259, 43, 260, 261, 264, 44, 265, 275, 274, 276, 277, 278, 279, 45, 280, 281, 282, 283, 46, 284, 47, 48, 285, 286, 287, 288, 289, 290, 6, 291, 292, 293, 294, 295, 296, 297, 49, 298, 299, 300, 303, 304, 305, 50, 306, 307, 308, 51, 309, 310, 311, 52, 312, 313, 314, 315, 316, 317, 53, 318, 319, 320, 321, 322, 323, 324, 325, 326, 327, 328, 329, 330, 331, 54, 332, 333, 334, 335, 336, 337, 338, 339, 340, 301, 302, 341, 342, 343, 344, 345, 346, 55, 347, 348, 349, 266, 267, 268, 269, 270, 271, 272, 273, 262, 263]
def wrNE : List Nat := [308, 51, 309, 310, 311, 52, 312, 313, 314, 315, 316, 317, 53, 318, 319, 320, 321, 322, 323, 324, 325, 326, 327, 328, 329, 330, 331, 54, 332, 333, 334, 335, 336, 337, 338, 339, 340]
def wrWP : List Nat := [24, 189, 190, 191, 192, 193, 194, 195, 196, 197, 198, 199, 200, 201, 202, 203, 204, 205, 206, 207, 208, 1, 209, 210, 211, 212, 213, 214, 26, 215, 217, 216, 218, 219, 220, 221, 27, 222, 223, 28, 224, 225, 29, 226, 227, 30, 228, 229, 230, 231, 232, 31, 233, 234, 235, 236, 237, 238, 239, 240, 241, 242, 243, 244, 245, 246, 247, 248, 249, 250, 251, 252, 253, 254, 255, 256, 257, 258, 259, 260, 261, 262]
def wrWT : List Nat := [32, 280, 281, 282, 283, 284, 285, 286, 287, 288, 289, 290, 291, 292, 293, 294, 295, 296, 297, 298, 1, 299, 300, 301, 302, 303, 304, 34, 305, 307, 306, 308, 309, 310, 311, 35, 312, 313, 36, 314, 315, 37, 316, 317, 318, 319, 320, 321, 322, 323, 324, 325, 326, 327, 328, 329, 38, 330, 331, 332, 39, 333, 334, 335, 336, 337, 338, 40, 339, 340, 341, 342, 343, 344, 345, 346, 347, 41, 348, 349, 350, 351, 352, 353, 354, 355, 356, 357, 358, 359, 360, 42, 361, 362, 363, 364, 365, 366, 367, 368, 369, 370, 371, 372, 373, 374, 375, 376, 377, 378, 379, 380, 381, 382, 383, 384, 385, 386, 387, 388, 389, 390, 391, 392, 393, 394, 395]
def wrLs : List Nat := [1, 38, 39, 40, 41, 42, 316, 317, 318, 319, 320, 321, 322, 323, 324, 325, 326, 327, 328, 329, 330, 331, 332, 333, 334, 335, 336, 337, 338, 339, 340, 341, 342, 343, 344, 345, 346, 347, 348, 349, 350, 351, 352, 353, 354, 355, 356, 357, 358, 359, 360, 361, 362, 363, 364, 365, 366, 367, 368, 369, 370, 371, 372, 373, 374, 375, 376, 377, 378]
def zsNE : List Value := [.int .i32 0, .string ByteArray.empty, .int .u16 0, .map none]
def zcNE : List CV := [.int .i32 0, .str [], .int .u16 0, .tags []]
def shNE : List K := [.int .i32, .str, .int .u16, .tags false]
def shPt : List K := [.int .i32, .int .i16, .int .i64, .int .i32, .tags false, .int .i32, .int .i32, .tags false, .int .i64, .int .i64, .bytes, .tags false]
def shTop : List K := [.int .i16, .int .i32, .int .i16, .arr [.str, .arr [.int .i32, .int .i16, .int .i64, .int .i32, .tags false, .int .i32, .int .i32, .tags false, .int .i64, .int .i64, .bytes, .tags false], .tags false], .arr [.int .i32, .str, .int .u16, .tags false], .tags false]
def sgNE (ver : Int) : SR := [(50, .ptr 0 0), (45, .rdr), (9, .cst (.bool true)), (8, .cst (.int .i16 ver)), (2, .cst (.bool false))]
def sgLs (ver : Int) : Sg := [(1, .dst), (35, .fld 0 4 1 false), (6, .cst (.bool true)), (5, .cst (.int .i16 ver))]
noncomputable def hookRdP : HookR := ⟨codeRdP, 7, 25, 351, 6, 5, 3, .prim .i32 0 (.prim .i32 1 (.tags 2 .nil)), 11, [(9, .bool true)], []⟩
noncomputable def hookRdT (ver : Int) (body : RP) : HookR := ⟨codeRdT, 7, 10, 351, 6, 4, 1, .arr true 0 0 zcNE body .nil, 5, [(9, .bool true), (8, .int .i16 ver), (2, .bool false)], [(4, .slice none 0 0)]⟩
noncomputable def hookWrP : HookW := ⟨codeWrP, 15, 397, 5, 3, .prim .i32 0 (.prim .i32 1 (.tagn 2 (.tage 2 .nil))), 11, fun sh => lEq (kEqF 10) sh shPt, [(6, .bool true)]⟩
noncomputable def hookWrT (ver : Int) (body : WP) : HookW := ⟨codeWrT, 0, 397, 4, 1, .alen .cal 0 (.loop 0 4 body .nil), 5, fun sh => lEq (kEqF 10) sh shTop, [(6, .bool true), (5, .int .i16 ver)]⟩
theorem supRP : allB (fun t => has (wrC codeRdP) t) wrRP = true := by kernel_rfl
theorem supRT : allB (fun t => has (wrC codeRdT) t) wrRT = true := by kernel_rfl
theorem supWP : allB (fun t => has (wrC codeWrP) t) wrWP = true := by kernel_rfl
theorem supWT : allB (fun t => has (wrC codeWrT) t) wrWT = true := by kernel_rfl
theorem subNE : allB (fun t => has wrNE t) (wrC codeNE) = true := by kernel_rfl
theorem subNE2 : allB (fun t => has wrRT t) wrNE = true := by kernel_rfl
theorem subLs : allB (fun t => has wrLs t) (wrC codeLs1 ++ wrC codeLs2) = true := by kernel_rfl
theorem subLd2 : allB (fun t => has wrWP t) (1 :: 27 :: wrLd) = true := by kernel_rfl
theorem subLs2 : allB (fun t => has wrWT t) wrLs = true := by kernel_rfl
end Go.Proofs.YtbcfmhgcpijfnaaDoor
