/-
  Two rows are the same; the version that a law takes.
-/
import Derived.Test.YthelpljefckgkaaDoorEngF
import Derived.Test.YthelpljefckgkaaDoorEngG
import Derived.Test.YthelpljefckgkaaDoorEngSpec
import Derived.Test.YthelpljefckgkaaDoorKbin
set_option linter.unusedVariables false
set_option linter.unusedSimpArgs false
namespace Go.Proofs.YthelpljefckgkaaDoor
open Go Go.RowKit Go.Proofs.Eng
set_option maxRecDepth 20000

theorem mixed : Tryd.prog.follows .mixedOrders = true := by kernel_rfl
theorem i64w (n : Int) (h : -4611686018427387904 ≤ n) (h' : n ≤ 4611686018427387904) : IntKind.i64.wrap n = n := by
  simp only [IntKind.wrap, IntKind.bits, IntKind.signed]
  simp
  omega
theorem own_mono {w : World} {base base' tB : Nat} {d : Value} {bs : List UInt8} (h : Own w base tB d bs) (hb : base' ≤ base) : Own w base' tB d bs :=
  ⟨h.1, h.2.imp id fun ⟨g, cap, cur, h1, h2, h3⟩ => ⟨g, cap, cur, h1, Nat.le_trans hb h2, h3⟩⟩
end Go.Proofs.YthelpljefckgkaaDoor
