/-
  A header, written by the package.
-/
import Derived.Test.YthejiimocbfagaaVintX
set_option linter.unusedVariables false
set_option linter.unusedSimpArgs false
namespace Go.Proofs.Ythejiimocbfagaa
open Go Go.RowKit Go.Proofs.Eng
set_option maxRecDepth 20000
set_option maxHeartbeats 4000000

def hdrB (s : ByteArray) (nl : Bool) (l : List UInt8) : List UInt8 := (uv (2 * s.size) ++ s.data.toList) ++ octB nl l
theorem hdr_append (w : World) (base b : Nat) (d v : Value) (bs : List UInt8) (s : ByteArray) (nl : Bool) (l : List UInt8) (hblk : w.heap[b]? = some (.cells #[.string s, v] 56 (0, 0))) (hv : OctRep w (fun q => base ≤ q) v nl l) (hown : Own w base 5 d bs) (hdb : d.ownBlock ≠ some b) (hb : base ≤ w.heap.size)
    (h1 : s.size < 1073741824) (h2 : l.length < 1073741824) (hs : bs.length + (hdrB s nl l).length ≤ lim) :
    Calls Try.prog 20 #[.pointer (some ⟨b, 0, none⟩), d] w fun e w' => ∃ d', e = .returned d' ∧ Own w' base 5 d' (bs ++ hdrB s nl l) ∧ Below base w w' := by
  have hss : s.data.toList.length = s.size := by rw [Array.length_toList]; rfl
  have hbl := lt_of_some hblk
  rw [hdrB, List.length_append, List.length_append, hss] at hs
  have hoB : OwnB w (fun q => base ≤ q ∧ q ≠ b) 5 d bs := ⟨(OwnC.of_own hown).1, fun g hg => ⟨(OwnC.of_own hown).2 g hg, fun e => hdb (by rw [hg, e])⟩⟩
  refine calls_wk (args := [.pointer (some ⟨b, 0, none⟩), d]) Try.func20 rfl rfl ?_
  refine wk_seq ?_
  refine wk_reg (id := 0) ?_
  refine wk_assign rfl rfl ?_
  refine wk_nil ?_
  refine wk_seq ?_
  refine wk_seq ?_
  refine wk_reg (id := 1) ?_
  refine wk_move rfl rfl ?_
  refine wk_nilCheck rfl rfl ?_
  refine wk_field (f := 0) (i := Try.t9) rfl Try.underlying56 rfl (by kernel_rfl) (by decide) rfl ?_
  refine wk_load rfl Try.underlying9 rfl (by exact cell_blk (by with_reducible assumption) rfl) rfl ?_
  refine wk_assign rfl rfl ?_
  refine wk_nil ?_
  refine wk_reg (id := 2) ?_
  refine wk_move rfl rfl ?_
  refine wk_move rfl rfl ?_
  refine wk_call Try.call27 (vs := [d, .string s]) rfl rfl ((AppendVarintString_in w base (fun q => base ≤ q ∧ q ≠ b) (fun q h => h.1) hb d bs s (fun q h => ⟨Nat.le_trans hb h, by omega⟩) hoB h1 (by omega)).mono ?_)
  rintro e w1 ⟨d1, rfl, ho1, hg1⟩
  refine ⟨_, rfl, ?_⟩
  have hblk1 := (hg1.block b hbl (fun h => h.2 rfl)).trans hblk
  have hb1 : Below base w w1 := hg1.below (fun k hk h => by omega) hb
  refine wk_assign rfl rfl ?_
  refine wk_nil ?_
  refine wk_seq ?_
  refine wk_seq ?_
  refine wk_reg (id := 3) ?_
  refine wk_move rfl rfl ?_
  refine wk_nilCheck rfl rfl ?_
  refine wk_field (f := 1) (i := Try.t22) rfl Try.underlying56 rfl (by kernel_rfl) (by decide) rfl ?_
  refine wk_load rfl Try.underlying22 rfl (by exact cell_blk (by with_reducible assumption) rfl) rfl ?_
  refine wk_assign rfl rfl ?_
  refine wk_nil ?_
  refine wk_reg (id := 4) ?_
  refine wk_move rfl rfl ?_
  refine wk_move rfl rfl ?_
  refine wk_call Try.call28 (vs := [d1, v]) rfl rfl ((AppendVarintBytes_any w1 base (fun q => base ≤ q) d1 v _ l nl (hv.keep (Keeps.of_below hb1)) (fun q h => h) ho1 (Nat.le_trans hb hb1.size) h2 (by rw [List.length_append, List.length_append, hss]; omega)).mono ?_)
  rintro e w2 ⟨d2, rfl, ho2, hb2⟩
  refine ⟨_, rfl, ?_⟩
  refine wk_assign rfl rfl ?_
  refine wk_nil ?_
  refine wk_seq ?_
  refine wk_reg (id := 5) ?_
  refine wk_move rfl rfl ?_
  refine wk_assign rfl rfl ?_
  refine wk_nil ?_
  exact wk_ret r0 rfl rfl ⟨d2, rfl, by rw [hdrB, ← List.append_assoc]; exact ho2, hb1.trans hb2⟩
theorem behind_any (w : World) (X Y Z : Nat → Prop) (u v x : Value) (a b c : List UInt8) (hu : BytesRep0 w X u a) (hv : BytesRep0 w Y v b) (hx : BytesRep0 w Z x c) (ha : a.length ≤ lim) (hl : b.length + c.length ≤ lim) :
    Calls Try.prog 7 #[u, v, x] w fun e w' => e = .returned (.bool (a == b ++ c)) ∧ Below w.heap.size w w' := by
  have hb1 := below1 w (.cells #[] 5)
  have ho1 := own_bs0 (e := 5) w
  refine calls_wk (args := [u, v, x]) Try.func7 rfl rfl ?_
  refine wk_seq ?_
  refine wk_reg (id := 0) ?_
  refine wk_assign rfl rfl ?_
  refine wk_nil ?_
  refine wk_seq ?_
  refine wk_reg (id := 1) ?_
  refine wk_move rfl rfl ?_
  refine wk_bs0 byteT rfl ?_
  refine wk_move rfl rfl ?_
  refine wk_append rfl rfl (app_rep byteT (hv.keep (keeps_below hb1 (Nat.le_refl _))) ho1 hb1.size (by simp; omega)) rfl ?_
  intro d1 w1 ho2 hb2
  have hb02 := hb1.trans hb2
  refine wk_move rfl rfl ?_
  refine wk_append rfl rfl (app_rep byteT (hx.keep (keeps_below hb02 (Nat.le_refl _))) ho2 hb02.size (by simp; omega)) rfl ?_
  intro d2 w2 ho3 hb3
  have hb03 := hb02.trans hb3
  skip
  refine wk_call Try.call14 (vs := [u, d2]) rfl rfl ((Same_any w2 X (fun _ => False) u d2 a (b ++ c) (hu.keep (keeps_below hb03 (Nat.le_refl _))) (by have := (OwnC.of_own ho3).bytes (Y := fun _ => False) (fun _ _ _ h => h); simpa using this) ha (by simpa using hl)).mono ?_)
  rintro e w3 ⟨rfl, hb4⟩
  refine ⟨_, rfl, ?_⟩
  refine wk_assign rfl rfl ?_
  refine wk_nil ?_
  exact wk_ret r0 rfl rfl ⟨rfl, hb03.trans (hb4.mono hb03.size)⟩
end Go.Proofs.Ythejiimocbfagaa
