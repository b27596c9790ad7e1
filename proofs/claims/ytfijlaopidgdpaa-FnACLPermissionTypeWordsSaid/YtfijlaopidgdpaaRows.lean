/-
  No cell of these rows narrows 'for every input' (looked for: loops, veiled, ifaces, maps, wideKeys, modest, calm, conditions, laid).
  DERIVED. THE GIVEN ROWS OF THIS SEAT. 3 by the template 'for every input the law returns true; each argument reads behind the call as it read before'; 0 by the template 'total and deterministic' (their statements: YtfijlaopidgdpaaTotals.lean).
  GIVEN WITH THE SEED: the statements are not yours to turn. If you find one false, say at which input.
  Laid BY PROGRAM, IN A SANDBOX (cutbox-rows.mjs): the forced cells as the released guide's own fill.sh prints them over the translation d861c140b9dc9f18… (all of the seat's roots in one cut). By AI agents, Wed Nov 11 2026. No macro, syntax, notation, axiom, sorry.
-/
import Derived.Test.YtfijlaopidgdpaaChecked
import GoSem.Claim
import GoSem.ClaimJoined
import GoSem.ClaimMapViews
import Derived.JoinedTies
import Derived.KernelRfl
namespace Go.Proofs.Ytfijlaopidgdpaa
/- THE CELL 'sum', in the pinned program and in every row, IS THE sha256 OF THE DUMP (.gsa) THAT YtfijlaopidgdpaaProg.lean LOADS. Nothing in Lean hashes anything: it is a label: what it is worth is what the hold of that sum in a sandbox is worth. -/
noncomputable def Try.pinned : Pinned := { name := "ytfijlaopidgdpaa", sum := "d861c140b9dc9f18f2398fd68bfe28a616ad80c33ed0bfdfc58f44b9d7110ac4", checked := Try.checked }
namespace Rows
def none {H : Type} : Left H := { results := [], args := [] }

/-- 'laws.FnNewOffsetDeleteRequest': WHATEVER THE INPUT: true; the input reads as it did. -/
def fnNewOffsetDeleteRequestSpec : ChangeSpec := { name := "fnNewOffsetDeleteRequest", fn := fun _ => fun
  | [d] => { results := [.lit (.bool true)], args := [d] }
  | _ => none }
def fnNewOffsetDeleteRequestRow : OpenClaim := { program := "ytfijlaopidgdpaa", sum := "d861c140b9dc9f18f2398fd68bfe28a616ad80c33ed0bfdfc58f44b9d7110ac4", func := "pub-kmsg/laws.FnNewOffsetDeleteRequest", spec := "fnNewOffsetDeleteRequest", recurses := true, apart := false }
def FnNewOffsetDeleteRequestSaid : Prop := fnNewOffsetDeleteRequestRow.holds Try.pinned (OpenSpec.ofChange fnNewOffsetDeleteRequestSpec)

/-- ITS FALSE NEIGHBOUR: 'it returns false'. Refute it at one input. -/
def fnNewOffsetDeleteRequestWrong : ChangeSpec := { name := "fnNewOffsetDeleteRequest", fn := fun _ => fun
  | [d] => { results := [.lit (.bool false)], args := [d] }
  | _ => none }
def FnNewOffsetDeleteRequestWrongFalsely : Prop := fnNewOffsetDeleteRequestRow.holds Try.pinned (OpenSpec.ofChange fnNewOffsetDeleteRequestWrong)

/-- 'laws.FnNewEnvelopeResponse': WHATEVER THE INPUT: true; the input reads as it did. -/
def fnNewEnvelopeResponseSpec : ChangeSpec := { name := "fnNewEnvelopeResponse", fn := fun _ => fun
  | [d] => { results := [.lit (.bool true)], args := [d] }
  | _ => none }
def fnNewEnvelopeResponseRow : OpenClaim := { program := "ytfijlaopidgdpaa", sum := "d861c140b9dc9f18f2398fd68bfe28a616ad80c33ed0bfdfc58f44b9d7110ac4", func := "pub-kmsg/laws.FnNewEnvelopeResponse", spec := "fnNewEnvelopeResponse", inPlace := ["internal/reflectlite.ValueOf", "internal/reflectlite.Swapper", "(internal/reflectlite.Value).Len"], unfollowed := true, recurses := true, apart := false }
def FnNewEnvelopeResponseSaid : Prop := fnNewEnvelopeResponseRow.holds Try.pinned (OpenSpec.ofChange fnNewEnvelopeResponseSpec)

/-- ITS FALSE NEIGHBOUR: 'it returns false'. Refute it at one input. -/
def fnNewEnvelopeResponseWrong : ChangeSpec := { name := "fnNewEnvelopeResponse", fn := fun _ => fun
  | [d] => { results := [.lit (.bool false)], args := [d] }
  | _ => none }
def FnNewEnvelopeResponseWrongFalsely : Prop := fnNewEnvelopeResponseRow.holds Try.pinned (OpenSpec.ofChange fnNewEnvelopeResponseWrong)

/-- 'laws.FnACLPermissionTypeWords': WHATEVER THE INPUT: true; the input reads as it did. -/
def fnACLPermissionTypeWordsSpec : ChangeSpec := { name := "fnACLPermissionTypeWords", fn := fun _ => fun
  | [] => { results := [.lit (.bool true)], args := [] }
  | _ => none }
def fnACLPermissionTypeWordsRow : OpenClaim := { program := "ytfijlaopidgdpaa", sum := "d861c140b9dc9f18f2398fd68bfe28a616ad80c33ed0bfdfc58f44b9d7110ac4", func := "pub-kmsg/laws.FnACLPermissionTypeWords", spec := "fnACLPermissionTypeWords", apart := false }
def FnACLPermissionTypeWordsSaid : Prop := fnACLPermissionTypeWordsRow.holds Try.pinned (OpenSpec.ofChange fnACLPermissionTypeWordsSpec)

/-- ITS FALSE NEIGHBOUR: 'it returns false'. Refute it at one input. -/
def fnACLPermissionTypeWordsWrong : ChangeSpec := { name := "fnACLPermissionTypeWords", fn := fun _ => fun
  | [] => { results := [.lit (.bool false)], args := [] }
  | _ => none }
def FnACLPermissionTypeWordsWrongFalsely : Prop := fnACLPermissionTypeWordsRow.holds Try.pinned (OpenSpec.ofChange fnACLPermissionTypeWordsWrong)

/- THE SECOND FORM. 'bulk': how many values and letters a reading holds, each counted each time it is reached (what is shared counts as often as it is met; a slice's spare places count too). A statement '..UptoSaid' is the law's where the arguments, and the package variables that the reading takes, are together of bulk at most 1048576: NARROWER than '..Said'. Prove '..Said' where nothing that the law and all that it calls make is longer than what came in: it says more and counts as full. Else prove '..UptoSaid'. A law counts once. -/
mutual
def uptoBulk {H : Type} : DataW H → Nat
  | .lit (.string bytes) => bytes.length + 1
  | .lit _ => 1
  | .nil => 1
  | .ptr d => uptoBulk d + 1
  | .slice elems spare => uptoBulkAll elems + uptoBulkAll spare + 1
  | .agg parts => uptoBulkAll parts + 1
  | .iface _ d => uptoBulk d + 1
  | .map entries => uptoBulkEntries entries + 1
  | .held _ => 1
def uptoBulkAll {H : Type} : List (DataW H) → Nat
  | [] => 0
  | d :: r => uptoBulk d + uptoBulkAll r
def uptoBulkEntries {H : Type} : List (Lit × DataW H) → Nat
  | [] => 0
  | x :: r => uptoBulkEntry x + uptoBulkEntries r
def uptoBulkEntry {H : Type} : Lit × DataW H → Nat
  | (.string bytes, d) => bytes.length + uptoBulk d + 1
  | (_, d) => uptoBulk d + 1
 end
def uptoSmall : (H : Type) → List (DataW H) → Bool := fun _ ds => decide (uptoBulkAll ds ≤ 1048576)
def OpenSpec.upto (s : _root_.Go.ChangeSpec) : _root_.Go.OpenSpec := { _root_.Go.OpenSpec.ofChange s with cond := some uptoSmall }

/-- 'laws.FnNewOffsetDeleteRequest', WHERE WHAT IT READS IS OF BULK AT MOST 1048576: true; the input reads as it did. -/
def fnNewOffsetDeleteRequestUptoRow : OpenClaim := { program := "ytfijlaopidgdpaa", sum := "d861c140b9dc9f18f2398fd68bfe28a616ad80c33ed0bfdfc58f44b9d7110ac4", func := "pub-kmsg/laws.FnNewOffsetDeleteRequest", spec := "fnNewOffsetDeleteRequest", recurses := true, apart := false, narrowed := true }
def FnNewOffsetDeleteRequestUptoSaid : Prop := fnNewOffsetDeleteRequestUptoRow.holds Try.pinned (OpenSpec.upto fnNewOffsetDeleteRequestSpec)

/-- 'laws.FnNewEnvelopeResponse', WHERE WHAT IT READS IS OF BULK AT MOST 1048576: true; the input reads as it did. -/
def fnNewEnvelopeResponseUptoRow : OpenClaim := { program := "ytfijlaopidgdpaa", sum := "d861c140b9dc9f18f2398fd68bfe28a616ad80c33ed0bfdfc58f44b9d7110ac4", func := "pub-kmsg/laws.FnNewEnvelopeResponse", spec := "fnNewEnvelopeResponse", inPlace := ["internal/reflectlite.ValueOf", "internal/reflectlite.Swapper", "(internal/reflectlite.Value).Len"], unfollowed := true, recurses := true, apart := false, narrowed := true }
def FnNewEnvelopeResponseUptoSaid : Prop := fnNewEnvelopeResponseUptoRow.holds Try.pinned (OpenSpec.upto fnNewEnvelopeResponseSpec)

/-- 'laws.FnACLPermissionTypeWords', WHERE WHAT IT READS IS OF BULK AT MOST 1048576: true; the input reads as it did. -/
def fnACLPermissionTypeWordsUptoRow : OpenClaim := { program := "ytfijlaopidgdpaa", sum := "d861c140b9dc9f18f2398fd68bfe28a616ad80c33ed0bfdfc58f44b9d7110ac4", func := "pub-kmsg/laws.FnACLPermissionTypeWords", spec := "fnACLPermissionTypeWords", apart := false, narrowed := true }
def FnACLPermissionTypeWordsUptoSaid : Prop := fnACLPermissionTypeWordsUptoRow.holds Try.pinned (OpenSpec.upto fnACLPermissionTypeWordsSpec)

end Rows
end Go.Proofs.Ytfijlaopidgdpaa
