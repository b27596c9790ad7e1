/-
  What the package's functions of appending do: each appends just the bytes that the words of writing say.
-/
import Derived.Test.YthelpljefckgkaaDoorPA
import Derived.Test.YthelpljefckgkaaDoorProg
set_option linter.unusedVariables false
set_option linter.unusedSimpArgs false
namespace Go.Proofs.YthelpljefckgkaaDoor
open Go Go.RowKit Go.Proofs.Eng

theorem byteT : ByteT Tryd.prog 27 5 := ⟨Tryd.underlying27, ⟨Tryd.t5, by kernel_rfl, rfl, rfl, rfl⟩⟩


/-! ## the contracts as the table wants them -/
theorem u32_1 (n : Nat) : IntKind.u32.wrap (1 + IntKind.u32.wrap (n : Int)) = (((1 + n) % 4294967296 : Nat) : Int) := by
  simp only [IntKind.wrap, IntKind.bits, IntKind.signed]; simp
theorem cell_str {w : World} {b : Nat} {s : ByteArray} {t : TypeId} (h : w.heap[b]? = some (.cells #[.string s] t (0, 0))) : w.cell? ⟨b, 0, none⟩ = some (.string s) := by
  rw [cell_of_row w b 0 _ t (0, 0) h]; rfl
/-- A slice of bytes as an argument. -/
theorem bytes_arg {w : World} {X : Nat → Prop} {v : Value} {xs : List UInt8} (h : BytesRep0 w X v xs) : ∃ A c, v = .slice A xs.length c := by
  rcases h with ⟨⟨A0, rfl⟩, rfl⟩ | ⟨b, o, n, c, rfl, _, _, hl, _⟩
  · exact ⟨A0, 0, rfl⟩
  · exact ⟨_, c, by rw [hl]⟩
end Go.Proofs.YthelpljefckgkaaDoor
