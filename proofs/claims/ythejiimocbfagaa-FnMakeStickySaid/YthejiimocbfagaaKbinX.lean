/-
  Appends of numbers, counts and texts where the bytes' block may lie anywhere but in given blocks.
-/
import Derived.Test.YthejiimocbfagaaVintX
set_option linter.unusedVariables false
set_option linter.unusedSimpArgs false
namespace Go.Proofs.Ythejiimocbfagaa
open Go Go.RowKit Go.Proofs.Eng
set_option maxRecDepth 20000
set_option maxHeartbeats 4000000
theorem AppendUint16_in (w : World) (X : Nat → Prop) (d : Value) (bs : List UInt8) (n : Int) (hX : ∀ b, w.heap.size ≤ b → X b) (hown : OwnB w X 5 d bs) (hs : bs.length + 2 ≤ lim) :
    Calls Try.prog 34 #[d, .int .u16 n] w fun e w' => ∃ d', e = .returned d' ∧ OwnB w' X 5 d' (bs ++ be 2 n) ∧ GrX X w w' := by
  refine calls_wk (args := [d, .int .u16 n]) Try.func34 rfl rfl ?_
  refine wk_seq ?_
  refine wk_reg (id := 0) ?_
  refine wk_assign rfl rfl ?_
  refine wk_nil ?_
  refine wk_seq ?_
  refine wk_reg (id := 1) ?_
  refine wk_move rfl rfl ?_
  refine wk_move rfl rfl ?_
  refine wk_shr rfl rfl (by decide) rfl ?_
  refine wk_conv rfl Try.underlying72 Try.underlying5 rfl ?_
  refine wk_move rfl rfl ?_
  refine wk_conv rfl Try.underlying72 Try.underlying5 rfl ?_
  refine wk_bs2 byteT rfl rfl rfl ?_
  refine wk_appR rfl rfl (app_newX byteT hX hown (xs := be 2 n) (by rw [be_length]; exact hs) ?_ rfl rfl) rfl ?_
  · simp only [be, List.map_cons, List.map_nil]
    refine cons_eq (u8_eq ?_) (cons_eq (u8_eq ?_) rfl) <;> simp [Int.fdiv_eq_ediv, IntKind.bits]
  · rintro d' w' ⟨ho, hg⟩
    refine wk_assign rfl rfl ?_
    refine wk_nil ?_
    exact wk_ret r0 rfl rfl ⟨d', rfl, ho, hg⟩
theorem AppendUint32_in (w : World) (X : Nat → Prop) (d : Value) (bs : List UInt8) (n : Int) (hX : ∀ b, w.heap.size ≤ b → X b) (hown : OwnB w X 5 d bs) (hs : bs.length + 4 ≤ lim) :
    Calls Try.prog 32 #[d, .int .u32 n] w fun e w' => ∃ d', e = .returned d' ∧ OwnB w' X 5 d' (bs ++ be 4 n) ∧ GrX X w w' := by
  refine calls_wk (args := [d, .int .u32 n]) Try.func32 rfl rfl ?_
  refine wk_seq ?_
  refine wk_reg (id := 0) ?_
  refine wk_assign rfl rfl ?_
  refine wk_nil ?_
  refine wk_seq ?_
  refine wk_reg (id := 1) ?_
  refine wk_move rfl rfl ?_
  refine wk_move rfl rfl ?_
  refine wk_shr rfl rfl (by decide) rfl ?_
  refine wk_conv rfl Try.underlying69 Try.underlying5 rfl ?_
  refine wk_move rfl rfl ?_
  refine wk_shr rfl rfl (by decide) rfl ?_
  refine wk_conv rfl Try.underlying69 Try.underlying5 rfl ?_
  refine wk_move rfl rfl ?_
  refine wk_shr rfl rfl (by decide) rfl ?_
  refine wk_conv rfl Try.underlying69 Try.underlying5 rfl ?_
  refine wk_move rfl rfl ?_
  refine wk_conv rfl Try.underlying69 Try.underlying5 rfl ?_
  refine wk_bs4 byteT rfl rfl rfl rfl rfl ?_
  refine wk_appR rfl rfl (app_newX byteT hX hown (xs := be 4 n) (by rw [be_length]; exact hs) ?_ rfl rfl) rfl ?_
  · simp only [be, List.map_cons, List.map_nil]
    refine cons_eq (u8_eq ?_) (cons_eq (u8_eq ?_) (cons_eq (u8_eq ?_) (cons_eq (u8_eq ?_) rfl))) <;> simp [Int.fdiv_eq_ediv, IntKind.bits]
  · rintro d' w' ⟨ho, hg⟩
    refine wk_assign rfl rfl ?_
    refine wk_nil ?_
    exact wk_ret r0 rfl rfl ⟨d', rfl, ho, hg⟩
theorem AppendInt16_in (w : World) (X : Nat → Prop) (d : Value) (bs : List UInt8) (n : Int) (hX : ∀ b, w.heap.size ≤ b → X b) (hown : OwnB w X 5 d bs) (hs : bs.length + 2 ≤ lim) :
    Calls Try.prog 31 #[d, .int .i16 n] w fun e w' => ∃ d', e = .returned d' ∧ OwnB w' X 5 d' (bs ++ be 2 n) ∧ GrX X w w' := by
  refine calls_wk (args := [d, .int .i16 n]) Try.func31 rfl rfl ?_
  refine wk_seq ?_
  refine wk_reg (id := 0) ?_
  refine wk_assign rfl rfl ?_
  refine wk_nil ?_
  refine wk_seq ?_
  refine wk_reg (id := 1) ?_
  refine wk_move rfl rfl ?_
  refine wk_move rfl rfl ?_
  refine wk_conv rfl Try.underlying67 Try.underlying72 rfl ?_
  refine wk_call Try.call34 (vs := [d, .int .u16 (IntKind.u16.wrap n)]) rfl rfl ((AppendUint16_in w X d bs _ hX hown hs).mono ?_)
  rintro e w' ⟨d', rfl, ho, hg⟩
  refine ⟨d', rfl, ?_⟩
  refine wk_assign rfl rfl ?_
  refine wk_nil ?_
  exact wk_ret r0 rfl rfl ⟨d', rfl, by rwa [be2_wrap n _ rfl] at ho, hg⟩
theorem AppendInt32_in (w : World) (X : Nat → Prop) (d : Value) (bs : List UInt8) (n : Int) (hX : ∀ b, w.heap.size ≤ b → X b) (hown : OwnB w X 5 d bs) (hs : bs.length + 4 ≤ lim) :
    Calls Try.prog 26 #[d, .int .i32 n] w fun e w' => ∃ d', e = .returned d' ∧ OwnB w' X 5 d' (bs ++ be 4 n) ∧ GrX X w w' := by
  refine calls_wk (args := [d, .int .i32 n]) Try.func26 rfl rfl ?_
  refine wk_seq ?_
  refine wk_reg (id := 0) ?_
  refine wk_assign rfl rfl ?_
  refine wk_nil ?_
  refine wk_seq ?_
  refine wk_reg (id := 1) ?_
  refine wk_move rfl rfl ?_
  refine wk_move rfl rfl ?_
  refine wk_conv rfl Try.underlying21 Try.underlying69 rfl ?_
  refine wk_call Try.call32 (vs := [d, .int .u32 (IntKind.u32.wrap n)]) rfl rfl ((AppendUint32_in w X d bs _ hX hown hs).mono ?_)
  rintro e w' ⟨d', rfl, ho, hg⟩
  refine ⟨d', rfl, ?_⟩
  refine wk_assign rfl rfl ?_
  refine wk_nil ?_
  exact wk_ret r0 rfl rfl ⟨d', rfl, by rwa [be4_wrap n _ rfl] at ho, hg⟩
theorem AppendArrayLen_in (w : World) (X : Nat → Prop) (d : Value) (bs : List UInt8) (n : Nat) (hX : ∀ b, w.heap.size ≤ b → X b) (hown : OwnB w X 5 d bs) (hs : bs.length + 4 ≤ lim) :
    Calls Try.prog 24 #[d, .int .i64 (n : Int)] w fun e w' => ∃ d', e = .returned d' ∧ OwnB w' X 5 d' (bs ++ be 4 n) ∧ GrX X w w' := by
  refine calls_wk (args := [d, .int .i64 (n : Int)]) Try.func24 rfl rfl ?_
  refine wk_seq ?_
  refine wk_reg (id := 0) ?_
  refine wk_assign rfl rfl ?_
  refine wk_nil ?_
  refine wk_seq ?_
  refine wk_reg (id := 1) ?_
  refine wk_move rfl rfl ?_
  refine wk_move rfl rfl ?_
  refine wk_conv rfl Try.underlying3 Try.underlying21 rfl ?_
  refine wk_call Try.call26 (vs := [d, .int .i32 (IntKind.i32.wrap n)]) rfl rfl ((AppendInt32_in w X d bs _ hX hown hs).mono ?_)
  rintro e w' ⟨d', rfl, ho, hg⟩
  refine ⟨d', rfl, ?_⟩
  refine wk_assign rfl rfl ?_
  refine wk_nil ?_
  exact wk_ret r0 rfl rfl ⟨d', rfl, by rwa [be4_wrap _ _ rfl] at ho, hg⟩
theorem AppendString_in (w : World) (base : Nat) (X : Nat → Prop) (hXb : ∀ q, X q → base ≤ q) (hb : base ≤ w.heap.size) (d : Value) (bs : List UInt8) (s : ByteArray) (hX : ∀ b, w.heap.size ≤ b → X b) (hown : OwnB w X 5 d bs) (hs : bs.length + (2 + s.size) ≤ lim) :
    Calls Try.prog 25 #[d, .string s] w fun e w' => ∃ d', e = .returned d' ∧ Own w' base 5 d' (bs ++ (be 2 s.size ++ s.data.toList)) ∧ GrX X w w' := by
  have hss : s.data.toList.length = s.size := by rw [Array.length_toList]; rfl
  refine calls_wk (args := [d, .string s]) Try.func25 rfl rfl ?_
  refine wk_seq ?_
  refine wk_reg (id := 0) ?_
  refine wk_assign rfl rfl ?_
  refine wk_nil ?_
  refine wk_seq ?_
  refine wk_reg (id := 1) ?_
  refine wk_move rfl rfl ?_
  refine wk_move rfl rfl ?_
  refine wk_strlen rfl Try.underlying9 rfl ?_
  refine wk_conv rfl Try.underlying3 Try.underlying67 rfl ?_
  refine wk_call Try.call31 (vs := [d, .int .i16 (IntKind.i16.wrap s.size)]) rfl rfl ((AppendInt16_in w X d bs _ hX hown (by omega)).mono ?_)
  rintro e w1 ⟨d1, rfl, ho1, hg1⟩
  refine ⟨d1, rfl, ?_⟩
  rw [be2_wrap _ _ rfl] at ho1
  refine wk_assign rfl rfl ?_
  refine wk_nil ?_
  refine wk_seq ?_
  refine wk_reg (id := 2) ?_
  refine wk_move rfl rfl ?_
  refine wk_move rfl rfl ?_
  refine wk_appR rfl rfl (app_strG byteT Try.underlying9 (ho1.to_own hXb) (Nat.le_trans hb hg1.size) (by rw [List.length_append, be_length, hss]; omega)) rfl ?_
  rintro d' w' ⟨ho, hg0⟩
  have hg := GrX.of_grown (X := X) hg0 ho1.2
  refine wk_assign rfl rfl ?_
  refine wk_nil ?_
  exact wk_ret r0 rfl rfl ⟨d', rfl, by rw [← List.append_assoc]; exact ho, hg1.trans hg⟩
theorem own_ne {w : World} {base b : Nat} {e t : TypeId} {d : Value} {bs : List UInt8} {cur : Array Value} {z : Nat × Nat} (h : Own w base e d bs) (hb : w.heap[b]? = some (.cells cur t z)) (hne : t ≠ e) : d.ownBlock ≠ some b := by
  intro e1
  rcases h.2 with ⟨rfl, _⟩ | ⟨g', cap, cur', rfl, _, hh, _⟩
  · simp [Value.ownBlock] at e1
  · simp only [Value.ownBlock, Option.some.injEq] at e1
    subst e1
    rw [hh] at hb
    simp only [Option.some.injEq, Obj.cells.injEq] at hb
    exact hne hb.2.1.symm
end Go.Proofs.Ythejiimocbfagaa
