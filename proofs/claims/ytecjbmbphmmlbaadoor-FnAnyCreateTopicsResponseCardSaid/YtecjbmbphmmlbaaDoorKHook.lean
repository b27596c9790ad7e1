/-
  Two pieces of code, that read and write a struct's tags, one of them known: where they stand, what they turn.
-/
import Derived.Test.YtecjbmbphmmlbaaDoorEngHk
import Derived.Test.YtecjbmbphmmlbaaDoorRConf
import Derived.Test.YtecjbmbphmmlbaaDoorProg
set_option linter.unusedVariables false
set_option linter.unusedSimpArgs false
namespace Go.Proofs.YtecjbmbphmmlbaaDoor
open Go Go.RowKit Go.Proofs.Eng
set_option maxRecDepth 20000
set_option maxHeartbeats 4000000
noncomputable def codeRd : Code := pickC [1, 1, 1, 1, 1, 1, 1, 1, 1, 0, 1, 1, 1, 1, 1, 1, 1, 0, 1, 0, 0, 1, 0, 0, 1, 1, 1, 1, 1, 1, 1, 1, 1, 1, 1, 0] (Tryd.f14.body.getD .skip)
noncomputable def codeWr : Code := pickC [1, 1, 1, 1, 1, 1, 0, 1, 1, 1, 0, 0, 1, 1, 0, 0, 1, 1, 1, 1, 1, 1, 1, 1, 1, 1, 0] (Tryd.f12.body.getD .skip)
def wrR : List Nat := [225, 35, 226, 227, 230, 36, 231, 241, 240, 242, 243, 244, 245, 37, 246, 38, 247, 248, 249, 250, 251, 39, 252, 253, 254, 6, 232, 233, 234, 235, 236, 237, 238, 239, 228, 229]
def wrW : List Nat := [25, 211, 212, 213, 214, 215, 216, 217, 218, 219, 220, 221, 222, 223, 224, 225, 226, 227, 228, 1, 229, 230, 231, 232, 233, 234, 27, 235, 237, 236, 238, 239, 240, 241, 28, 242, 243, 244, 245, 246, 247, 248, 249, 250, 251, 252, 253, 254]
noncomputable def hookRd : HookR := ⟨codeRd, 7, 17, 266, 6, 19, 1, .prim .i16 0 .nil, 23⟩
def okWr (sh : List K) : Bool := match (sh[19]? : Option K), (sh[23]? : Option K) with
  | some (.int .i16), some (.tags false) => true
  | _, _ => false
noncomputable def hookWr : HookW := ⟨codeWr, 10, 271, 19, 1, .prim .i16 0 .nil, 23, okWr⟩
theorem subR : allB (fun t => has wrR t) (wrC codeRd) = true := by kernel_rfl
theorem subW : allB (fun t => has wrW t) (wrC codeWr) = true := by kernel_rfl
theorem supR : allB (fun t => has (wrC codeRd) t) wrR = true := by kernel_rfl
theorem supW : allB (fun t => has (wrC codeWr) t) wrW = true := by kernel_rfl
end Go.Proofs.YtecjbmbphmmlbaaDoor
