/-
  What the package's functions of appending do: each appends just the bytes that the words of writing say.
-/
import Derived.Test.YtbcfmhgcpijfnaaDoorPA
import Derived.Test.YtbcfmhgcpijfnaaDoorProg
set_option linter.unusedVariables false
set_option linter.unusedSimpArgs false
namespace Go.Proofs.YtbcfmhgcpijfnaaDoor
open Go Go.RowKit Go.Proofs.Eng

theorem byteT : ByteT Tryd.prog 22 5 := ⟨Tryd.underlying22, ⟨Tryd.t5, by kernel_rfl, rfl, rfl, rfl⟩⟩

theorem AppendUint32_any (w : World) (base : Nat) (d : Value) (bs : List UInt8) (n : Int) (hown : Own w base 5 d bs) (hb : base ≤ w.heap.size) (hs : bs.length + 4 ≤ lim) :
    Calls Tryd.prog 53 #[d, .int .u32 n] w fun e w' => ∃ d', e = .returned d' ∧ Own w' base 5 d' (bs ++ be 4 n) ∧ Below base w w' := by
  refine calls_wk (args := [d, .int .u32 n]) Tryd.func53 rfl rfl ?_
  refine wk_seq ?_
  refine wk_reg (id := 0) ?_
  refine wk_assign rfl rfl ?_
  refine wk_nil ?_
  refine wk_seq ?_
  refine wk_reg (id := 1) ?_
  refine wk_move rfl rfl ?_
  refine wk_move rfl rfl ?_
  refine wk_shr rfl rfl (by decide) rfl ?_
  refine wk_conv rfl Tryd.underlying64 Tryd.underlying5 rfl ?_
  refine wk_move rfl rfl ?_
  refine wk_shr rfl rfl (by decide) rfl ?_
  refine wk_conv rfl Tryd.underlying64 Tryd.underlying5 rfl ?_
  refine wk_move rfl rfl ?_
  refine wk_shr rfl rfl (by decide) rfl ?_
  refine wk_conv rfl Tryd.underlying64 Tryd.underlying5 rfl ?_
  refine wk_move rfl rfl ?_
  refine wk_conv rfl Tryd.underlying64 Tryd.underlying5 rfl ?_
  refine wk_bs4 byteT rfl rfl rfl rfl rfl ?_
  refine wk_append rfl rfl (app_new byteT hown hb (xs := be 4 n) (by rw [be_length]; exact hs) ?_ rfl rfl) rfl ?_
  · simp only [be, List.map_cons, List.map_nil]
    refine cons_eq (u8_eq ?_) (cons_eq (u8_eq ?_) (cons_eq (u8_eq ?_) (cons_eq (u8_eq ?_) rfl))) <;> simp [Int.fdiv_eq_ediv, IntKind.bits]
  · intro d' w' ho hg
    refine wk_assign rfl rfl ?_
    refine wk_nil ?_
    exact wk_ret r0 rfl rfl ⟨d', rfl, ho, below_new hb hg⟩
theorem AppendUint16_any (w : World) (base : Nat) (d : Value) (bs : List UInt8) (n : Int) (hown : Own w base 5 d bs) (hb : base ≤ w.heap.size) (hs : bs.length + 2 ≤ lim) :
    Calls Tryd.prog 30 #[d, .int .u16 n] w fun e w' => ∃ d', e = .returned d' ∧ Own w' base 5 d' (bs ++ be 2 n) ∧ Below base w w' := by
  refine calls_wk (args := [d, .int .u16 n]) Tryd.func30 rfl rfl ?_
  refine wk_seq ?_
  refine wk_reg (id := 0) ?_
  refine wk_assign rfl rfl ?_
  refine wk_nil ?_
  refine wk_seq ?_
  refine wk_reg (id := 1) ?_
  refine wk_move rfl rfl ?_
  refine wk_move rfl rfl ?_
  refine wk_shr rfl rfl (by decide) rfl ?_
  refine wk_conv rfl Tryd.underlying70 Tryd.underlying5 rfl ?_
  refine wk_move rfl rfl ?_
  refine wk_conv rfl Tryd.underlying70 Tryd.underlying5 rfl ?_
  refine wk_bs2 byteT rfl rfl rfl ?_
  refine wk_append rfl rfl (app_new byteT hown hb (xs := be 2 n) (by rw [be_length]; exact hs) ?_ rfl rfl) rfl ?_
  · simp only [be, List.map_cons, List.map_nil]
    refine cons_eq (u8_eq ?_) (cons_eq (u8_eq ?_) rfl) <;> simp [Int.fdiv_eq_ediv, IntKind.bits]
  · intro d' w' ho hg
    refine wk_assign rfl rfl ?_
    refine wk_nil ?_
    exact wk_ret r0 rfl rfl ⟨d', rfl, ho, below_new hb hg⟩
theorem appendUint64_any (w : World) (base : Nat) (d : Value) (bs : List UInt8) (n : Int) (hown : Own w base 5 d bs) (hb : base ≤ w.heap.size) (hs : bs.length + 8 ≤ lim) :
    Calls Tryd.prog 54 #[d, .int .u64 n] w fun e w' => ∃ d', e = .returned d' ∧ Own w' base 5 d' (bs ++ be 8 n) ∧ Below base w w' := by
  refine calls_wk (args := [d, .int .u64 n]) Tryd.func54 rfl rfl ?_
  refine wk_seq ?_
  refine wk_reg (id := 0) ?_
  refine wk_assign rfl rfl ?_
  refine wk_nil ?_
  refine wk_seq ?_
  refine wk_reg (id := 1) ?_
  refine wk_move rfl rfl ?_
  refine wk_move rfl rfl ?_
  refine wk_shr rfl rfl (by decide) rfl ?_
  refine wk_conv rfl Tryd.underlying90 Tryd.underlying5 rfl ?_
  refine wk_move rfl rfl ?_
  refine wk_shr rfl rfl (by decide) rfl ?_
  refine wk_conv rfl Tryd.underlying90 Tryd.underlying5 rfl ?_
  refine wk_move rfl rfl ?_
  refine wk_shr rfl rfl (by decide) rfl ?_
  refine wk_conv rfl Tryd.underlying90 Tryd.underlying5 rfl ?_
  refine wk_move rfl rfl ?_
  refine wk_shr rfl rfl (by decide) rfl ?_
  refine wk_conv rfl Tryd.underlying90 Tryd.underlying5 rfl ?_
  refine wk_move rfl rfl ?_
  refine wk_shr rfl rfl (by decide) rfl ?_
  refine wk_conv rfl Tryd.underlying90 Tryd.underlying5 rfl ?_
  refine wk_move rfl rfl ?_
  refine wk_shr rfl rfl (by decide) rfl ?_
  refine wk_conv rfl Tryd.underlying90 Tryd.underlying5 rfl ?_
  refine wk_move rfl rfl ?_
  refine wk_shr rfl rfl (by decide) rfl ?_
  refine wk_conv rfl Tryd.underlying90 Tryd.underlying5 rfl ?_
  refine wk_move rfl rfl ?_
  refine wk_conv rfl Tryd.underlying90 Tryd.underlying5 rfl ?_
  refine wk_bs8 byteT rfl rfl rfl rfl rfl rfl rfl rfl rfl ?_
  refine wk_append rfl rfl (app_new byteT hown hb (xs := be 8 n) (by rw [be_length]; exact hs) ?_ rfl rfl) rfl ?_
  · simp only [be, List.map_cons, List.map_nil]
    refine cons_eq (u8_eq ?_) (cons_eq (u8_eq ?_) (cons_eq (u8_eq ?_) (cons_eq (u8_eq ?_) (cons_eq (u8_eq ?_) (cons_eq (u8_eq ?_) (cons_eq (u8_eq ?_) (cons_eq (u8_eq ?_) rfl))))))) <;> simp [Int.fdiv_eq_ediv, IntKind.bits]
  · intro d' w' ho hg
    refine wk_assign rfl rfl ?_
    refine wk_nil ?_
    exact wk_ret r0 rfl rfl ⟨d', rfl, ho, below_new hb hg⟩
theorem AppendInt16_any (w : World) (base : Nat) (d : Value) (bs : List UInt8) (n : Int) (hown : Own w base 5 d bs) (hb : base ≤ w.heap.size) (hs : bs.length + 2 ≤ lim) :
    Calls Tryd.prog 16 #[d, .int .i16 n] w fun e w' => ∃ d', e = .returned d' ∧ Own w' base 5 d' (bs ++ be 2 n) ∧ Below base w w' := by
  refine calls_wk (args := [d, .int .i16 n]) Tryd.func16 rfl rfl ?_
  refine wk_seq ?_
  refine wk_reg (id := 0) ?_
  refine wk_assign rfl rfl ?_
  refine wk_nil ?_
  refine wk_seq ?_
  refine wk_reg (id := 1) ?_
  refine wk_move rfl rfl ?_
  refine wk_move rfl rfl ?_
  refine wk_conv rfl Tryd.underlying29 Tryd.underlying70 rfl ?_
  refine wk_call Tryd.call30 (vs := [d, .int .u16 (IntKind.u16.wrap n)]) rfl rfl ((AppendUint16_any w base d bs _ hown hb hs).mono ?_)
  rintro e w' ⟨d', rfl, ho, hg⟩
  refine ⟨d', rfl, ?_⟩
  refine wk_assign rfl rfl ?_
  refine wk_nil ?_
  exact wk_ret r0 rfl rfl ⟨d', rfl, by rwa [be2_wrap n _ rfl] at ho, hg⟩
theorem AppendInt32_any (w : World) (base : Nat) (d : Value) (bs : List UInt8) (n : Int) (hown : Own w base 5 d bs) (hb : base ≤ w.heap.size) (hs : bs.length + 4 ≤ lim) :
    Calls Tryd.prog 15 #[d, .int .i32 n] w fun e w' => ∃ d', e = .returned d' ∧ Own w' base 5 d' (bs ++ be 4 n) ∧ Below base w w' := by
  refine calls_wk (args := [d, .int .i32 n]) Tryd.func15 rfl rfl ?_
  refine wk_seq ?_
  refine wk_reg (id := 0) ?_
  refine wk_assign rfl rfl ?_
  refine wk_nil ?_
  refine wk_seq ?_
  refine wk_reg (id := 1) ?_
  refine wk_move rfl rfl ?_
  refine wk_move rfl rfl ?_
  refine wk_conv rfl Tryd.underlying21 Tryd.underlying64 rfl ?_
  refine wk_call Tryd.call53 (vs := [d, .int .u32 (IntKind.u32.wrap n)]) rfl rfl ((AppendUint32_any w base d bs _ hown hb hs).mono ?_)
  rintro e w' ⟨d', rfl, ho, hg⟩
  refine ⟨d', rfl, ?_⟩
  refine wk_assign rfl rfl ?_
  refine wk_nil ?_
  exact wk_ret r0 rfl rfl ⟨d', rfl, by rwa [be4_wrap n _ rfl] at ho, hg⟩
theorem AppendInt64_any (w : World) (base : Nat) (d : Value) (bs : List UInt8) (n : Int) (hown : Own w base 5 d bs) (hb : base ≤ w.heap.size) (hs : bs.length + 8 ≤ lim) :
    Calls Tryd.prog 21 #[d, .int .i64 n] w fun e w' => ∃ d', e = .returned d' ∧ Own w' base 5 d' (bs ++ be 8 n) ∧ Below base w w' := by
  refine calls_wk (args := [d, .int .i64 n]) Tryd.func21 rfl rfl ?_
  refine wk_seq ?_
  refine wk_reg (id := 0) ?_
  refine wk_assign rfl rfl ?_
  refine wk_nil ?_
  refine wk_seq ?_
  refine wk_reg (id := 1) ?_
  refine wk_move rfl rfl ?_
  refine wk_move rfl rfl ?_
  refine wk_conv rfl Tryd.underlying2 Tryd.underlying90 rfl ?_
  refine wk_call Tryd.call54 (vs := [d, .int .u64 (IntKind.u64.wrap n)]) rfl rfl ((appendUint64_any w base d bs _ hown hb hs).mono ?_)
  rintro e w' ⟨d', rfl, ho, hg⟩
  refine ⟨d', rfl, ?_⟩
  refine wk_assign rfl rfl ?_
  refine wk_nil ?_
  exact wk_ret r0 rfl rfl ⟨d', rfl, by rwa [be8_wrap n _ rfl] at ho, hg⟩
theorem AppendString_any (w : World) (base : Nat) (d : Value) (bs : List UInt8) (s : ByteArray) (hown : Own w base 5 d bs) (hb : base ≤ w.heap.size) (hs : bs.length + (be 2 s.data.toList.length ++ s.data.toList).length ≤ lim) :
    Calls Tryd.prog 20 #[d, .string s] w fun e w' => ∃ d', e = .returned d' ∧ Own w' base 5 d' (bs ++ (be 2 s.data.toList.length ++ s.data.toList)) ∧ Below base w w' := by
  have hss : s.data.toList.length = s.size := by rw [Array.length_toList]; rfl
  rw [List.length_append, be_length] at hs
  refine calls_wk (args := [d, .string s]) Tryd.func20 rfl rfl ?_
  refine wk_seq ?_
  refine wk_reg (id := 0) ?_
  refine wk_assign rfl rfl ?_
  refine wk_nil ?_
  refine wk_seq ?_
  refine wk_reg (id := 1) ?_
  refine wk_move rfl rfl ?_
  refine wk_move rfl rfl ?_
  refine wk_strlen rfl Tryd.underlying9 rfl ?_
  refine wk_conv rfl Tryd.underlying3 Tryd.underlying29 rfl ?_
  refine wk_call Tryd.call16 (vs := [d, .int .i16 (IntKind.i16.wrap s.size)]) rfl rfl ((AppendInt16_any w base d bs _ hown hb (by omega)).mono ?_)
  rintro e w1 ⟨d1, rfl, ho1, hg1⟩
  refine ⟨d1, rfl, ?_⟩
  rw [be2_wrap _ _ rfl] at ho1
  refine wk_assign rfl rfl ?_
  refine wk_nil ?_
  refine wk_seq ?_
  refine wk_reg (id := 2) ?_
  refine wk_move rfl rfl ?_
  refine wk_move rfl rfl ?_
  refine wk_append rfl rfl (app_str byteT Tryd.underlying9 ho1 (Nat.le_trans hb hg1.size) (by rw [List.length_append, be_length]; omega)) rfl ?_
  intro d' w' ho hg
  refine wk_assign rfl rfl ?_
  refine wk_nil ?_
  exact wk_ret r0 rfl rfl ⟨d', rfl, by rw [hss, ← List.append_assoc]; exact ho, hg1.trans hg⟩
/-- The two tables of the program's text. -/
noncomputable def tab8 : ByteArray := match Tryd.f64.body with
  | some c => (match flatC c with
    | [_, _, _, _, _, .region _ ops _, _] => (match ops[3]? with | some o => (match o.op with | .index _ (.const (.string s)) _ => s | _ => .empty) | none => .empty)
    | _ => .empty)
  | none => .empty
noncomputable def tabU : ByteArray := match Tryd.f55.body with
  | some c => (match flatC c with
    | [_, .region _ ops _, _] => (match ops[3]? with | some o => (match o.op with | .index _ (.const (.string s)) _ => s | _ => .empty) | none => .empty)
    | _ => .empty)
  | none => .empty
def atB (s : ByteArray) (i : Nat) : Nat := match s.data.toList[i]? with | some b => b.toNat | none => 0
theorem tab8_size : tab8.size = 256 := Nat.eq_of_beq_eq_true (by kernel_rfl)
theorem tabU_size : tabU.size = 256 := Nat.eq_of_beq_eq_true (by kernel_rfl)
noncomputable def tabOK (x : Nat) : Bool := Nat.blt (atB tab8 x) 9 && Nat.beq (atB tabU (atB tab8 x)) (if Nat.blt x 128 then 1 else 2) &&
    (Nat.beq x 0 || (Nat.beq (atB tabU (8 + atB tab8 x)) (if Nat.blt x 64 then 2 else 3) && Nat.beq (atB tabU (16 + atB tab8 x)) (if Nat.blt x 32 then 3 else 4) &&
      Nat.beq (atB tabU (24 + atB tab8 x)) (if Nat.blt x 16 then 4 else 5)))
theorem tabs_ok : allB tabOK (List.range 256) = true := by kernel_rfl
theorem atB_get {s : ByteArray} {i : Nat} (h : i < s.size) : bv s[i] = .int .u8 (atB s i) := by
  have hl : i < s.data.toList.length := by rw [Array.length_toList]; exact h
  simp only [atB, List.getElem?_eq_getElem hl, bv]
  rfl
theorem tabs_at (x : Nat) (hx : x < 256) : atB tab8 x < 9 ∧ atB tabU (atB tab8 x) = (if x < 128 then 1 else 2) ∧
    (x ≠ 0 → atB tabU (8 + atB tab8 x) = (if x < 64 then 2 else 3) ∧ atB tabU (16 + atB tab8 x) = (if x < 32 then 3 else 4) ∧ atB tabU (24 + atB tab8 x) = (if x < 16 then 4 else 5)) := by
  have h := allB_mem tabs_ok x (List.mem_range.2 hx)
  simp only [tabOK, Bool.and_eq_true, Bool.or_eq_true, Nat.beq_eq, Nat.blt_eq] at h
  obtain ⟨⟨h1, h2⟩, h3⟩ := h
  exact ⟨h1, h2, fun h0 => by
    rcases h3 with h3 | h3
    · exact absurd h3 h0
    · exact ⟨h3.1.1, h3.1.2, h3.2⟩⟩
noncomputable def L32 (n : Nat) : Nat := if n < 256 then atB tab8 n else if n < 65536 then 8 + atB tab8 (n / 256) else if n < 16777216 then 16 + atB tab8 (n / 65536) else 24 + atB tab8 (n / 16777216)
theorem L32_lt (n : Nat) (hn : n < 4294967296) : L32 n < 256 := by
  unfold L32
  (repeat' split) <;> (have := tabs_at; first | (have := (tabs_at n (by omega)).1; omega) | (have := (tabs_at (n / 256) (by omega)).1; omega) | (have := (tabs_at (n / 65536) (by omega)).1; omega) | (have := (tabs_at (n / 16777216) (by omega)).1; omega))
theorem U_L32 (n : Nat) (hn : n < 4294967296) : atB tabU (L32 n) = uvl n := by
  unfold L32 uvl
  by_cases h1 : n < 256
  · rw [if_pos h1, (tabs_at n h1).2.1]
    (repeat' split) <;> omega
  · rw [if_neg h1]
    by_cases h2 : n < 65536
    · rw [if_pos h2, ((tabs_at (n / 256) (by omega)).2.2 (by omega)).1]
      (repeat' split) <;> omega
    · rw [if_neg h2]
      by_cases h3 : n < 16777216
      · rw [if_pos h3, ((tabs_at (n / 65536) (by omega)).2.2 (by omega)).2.1]
        (repeat' split) <;> omega
      · rw [if_neg h3, ((tabs_at (n / 16777216) (by omega)).2.2 (by omega)).2.2]
        (repeat' split) <;> omega

theorem u8_nat (n : Nat) (h : n < 256) : IntKind.u8.wrap (n : Int) = n := by rw [wrap_u8]; omega
theorem i64_nat (n : Nat) (h : n < 4294967296) : IntKind.i64.wrap (n : Int) = n := by
  simp only [IntKind.wrap, IntKind.bits, IntKind.signed]
  simp
  omega

set_option maxRecDepth 100000 in
theorem Len32_any (w : World) (n : Nat) (hn : n < 4294967296) : Calls Tryd.prog 64 #[.int .u32 n] w fun e w' => e = .returned (.int .i64 (L32 n)) ∧ w' = w := by
  have hx : ∀ (x off : Nat), x < 256 → L32 n = off + atB tab8 x → off ≤ 24 → IntKind.i64.wrap ((off : Int) + IntKind.i64.wrap (atB tab8 x : Int)) = L32 n := by
    intro x off hx hL ho
    have := (tabs_at x hx).1
    rw [i64_nat _ (by omega), ← Int.natCast_add, i64_nat _ (by omega), hL]
  have e16 : (n : Int).fdiv (2 ^ min (Int.toNat 16) IntKind.u32.bits) = ((n / 65536 : Nat) : Int) := fdiv_nat n 16
  have e8 : ∀ m : Nat, (m : Int).fdiv (2 ^ min (Int.toNat 8) IntKind.u32.bits) = ((m / 256 : Nat) : Int) := fun m => fdiv_nat m 8
  have get : ∀ x, x < 256 → ∃ h : x < tab8.size, bv (tab8[x]'h) = .int .u8 (atB tab8 x) := fun x hx => ⟨by rw [tab8_size]; exact hx, atB_get _⟩
  refine calls_wk (args := [.int .u32 n]) Tryd.func64 rfl rfl ?_
  refine wk_seq ?_
  refine wk_reg (id := 0) ?_
  refine wk_assign rfl rfl ?_
  refine wk_nil ?_
  refine wk_seq ?_
  refine wk_seq ?_
  refine wk_reg (id := 1) ?_
  refine wk_move rfl rfl ?_
  refine wk_cmp rfl rfl rfl rfl ?_
  refine wk_nil ?_
  refine wk_cond rfl (fun h1 => ?_) (fun h1 => ?_) <;> simp only [decide_eq_true_eq, decide_eq_false_iff_not] at h1
  · refine wk_seq ?_
    refine wk_reg (id := 2) ?_
    refine wk_move rfl rfl ?_
    refine wk_shr rfl rfl (by decide) rfl ?_
    refine wk_assign rfl rfl ?_
    refine wk_nil ?_
    refine wk_reg (id := 3) ?_
    refine wk_assign rfl rfl ?_
    refine wk_nil ?_
    refine wk_seq ?_
    refine wk_seq ?_
    refine wk_reg (id := 4) ?_
    refine wk_move rfl rfl ?_
    refine wk_cmp rfl rfl rfl rfl ?_
    refine wk_nil ?_
    refine wk_cond rfl (fun h2 => ?_) (fun h2 => ?_) <;> simp only [decide_eq_true_eq, decide_eq_false_iff_not, e16] at h2
    · refine wk_seq ?_
      refine wk_reg (id := 5) ?_
      refine wk_move rfl rfl ?_
      refine wk_shr rfl rfl (by decide) rfl ?_
      refine wk_assign rfl rfl ?_
      refine wk_nil ?_
      refine wk_reg (id := 6) ?_
      refine wk_move rfl rfl ?_
      refine wk_add rfl rfl rfl ?_
      refine wk_assign rfl rfl ?_
      refine wk_nil ?_
      refine wk_seq ?_
      refine wk_reg (id := 7) ?_
      refine wk_move rfl rfl ?_
      refine wk_move rfl rfl ?_
      refine wk_conv rfl Tryd.underlying64 Tryd.underlying5 rfl ?_
      refine wk_idxv (s := tab8) (n := n / 16777216) (by kernel_rfl) rfl ?_ Tryd.underlying9 (get _ (by omega)) rfl ?_
      · rw [e16, e8, u8_nat _ (by omega)]; omega
      refine wk_conv rfl Tryd.underlying5 Tryd.underlying3 rfl ?_
      refine wk_add rfl rfl rfl ?_
      refine wk_assign rfl rfl ?_
      refine wk_nil ?_
      refine wk_ret r0 rfl rfl ⟨congrArg (fun z => Ending.returned (.int .i64 z)) ?_, rfl⟩
      exact hx _ 24 (by omega) (by unfold L32; rw [if_neg (by omega), if_neg (by omega), if_neg (by omega)]) (by omega)
    · refine wk_skip ?_
      refine wk_seq ?_
      refine wk_reg (id := 7) ?_
      refine wk_move rfl rfl ?_
      refine wk_move rfl rfl ?_
      refine wk_conv rfl Tryd.underlying64 Tryd.underlying5 rfl ?_
      refine wk_idxv (s := tab8) (n := n / 65536) (by kernel_rfl) rfl ?_ Tryd.underlying9 (get _ (by omega)) rfl ?_
      · rw [e16, u8_nat _ (by omega)]
      refine wk_conv rfl Tryd.underlying5 Tryd.underlying3 rfl ?_
      refine wk_add rfl rfl rfl ?_
      refine wk_assign rfl rfl ?_
      refine wk_nil ?_
      refine wk_ret r0 rfl rfl ⟨congrArg (fun z => Ending.returned (.int .i64 z)) ?_, rfl⟩
      exact hx _ 16 (by omega) (by unfold L32; rw [if_neg (by omega), if_neg (by omega), if_pos (by omega)]) (by omega)
  · refine wk_skip ?_
    refine wk_seq ?_
    refine wk_seq ?_
    refine wk_reg (id := 4) ?_
    refine wk_move rfl rfl ?_
    refine wk_cmp rfl rfl rfl rfl ?_
    refine wk_nil ?_
    refine wk_cond rfl (fun h2 => ?_) (fun h2 => ?_) <;> simp only [decide_eq_true_eq, decide_eq_false_iff_not] at h2
    · refine wk_seq ?_
      refine wk_reg (id := 5) ?_
      refine wk_move rfl rfl ?_
      refine wk_shr rfl rfl (by decide) rfl ?_
      refine wk_assign rfl rfl ?_
      refine wk_nil ?_
      refine wk_reg (id := 6) ?_
      refine wk_move rfl rfl ?_
      refine wk_add rfl rfl rfl ?_
      refine wk_assign rfl rfl ?_
      refine wk_nil ?_
      refine wk_seq ?_
      refine wk_reg (id := 7) ?_
      refine wk_move rfl rfl ?_
      refine wk_move rfl rfl ?_
      refine wk_conv rfl Tryd.underlying64 Tryd.underlying5 rfl ?_
      refine wk_idxv (s := tab8) (n := n / 256) (by kernel_rfl) rfl ?_ Tryd.underlying9 (get _ (by omega)) rfl ?_
      · rw [e8, u8_nat _ (by omega)]
      refine wk_conv rfl Tryd.underlying5 Tryd.underlying3 rfl ?_
      refine wk_add rfl rfl rfl ?_
      refine wk_assign rfl rfl ?_
      refine wk_nil ?_
      refine wk_ret r0 rfl rfl ⟨congrArg (fun z => Ending.returned (.int .i64 z)) ?_, rfl⟩
      exact hx _ 8 (by omega) (by unfold L32; rw [if_neg (by omega), if_pos (by omega)]) (by omega)
    · refine wk_skip ?_
      refine wk_seq ?_
      refine wk_reg (id := 7) ?_
      refine wk_move rfl rfl ?_
      refine wk_move rfl rfl ?_
      refine wk_conv rfl Tryd.underlying64 Tryd.underlying5 rfl ?_
      refine wk_idxv (s := tab8) (n := n) (by kernel_rfl) rfl ?_ Tryd.underlying9 (get _ (by omega)) rfl ?_
      · rw [u8_nat _ (by omega)]
      refine wk_conv rfl Tryd.underlying5 Tryd.underlying3 rfl ?_
      refine wk_add rfl rfl rfl ?_
      refine wk_assign rfl rfl ?_
      refine wk_nil ?_
      refine wk_ret r0 rfl rfl ⟨congrArg (fun z => Ending.returned (.int .i64 z)) ?_, rfl⟩
      exact hx _ 0 (by omega) (by unfold L32; rw [if_pos (by omega)]; omega) (by omega)

set_option maxRecDepth 100000 in
theorem UvarintLen_any (w : World) (n : Nat) (hn : n < 4294967296) : Calls Tryd.prog 55 #[.int .u32 n] w fun e w' => e = .returned (.int .i64 (uvl n)) ∧ w' = w := by
  refine calls_wk (args := [.int .u32 n]) Tryd.func55 rfl rfl ?_
  refine wk_seq ?_
  refine wk_reg (id := 0) ?_
  refine wk_assign rfl rfl ?_
  refine wk_nil ?_
  refine wk_seq ?_
  refine wk_reg (id := 1) ?_
  refine wk_move rfl rfl ?_
  refine wk_call Tryd.call64 (vs := [.int .u32 n]) rfl rfl ((Len32_any w n hn).mono ?_)
  rintro e w' ⟨rfl, rfl⟩
  refine ⟨_, rfl, ?_⟩
  refine wk_conv rfl Tryd.underlying3 Tryd.underlying5 rfl ?_
  refine wk_idxv (s := tabU) (n := L32 n) (by kernel_rfl) rfl (u8_nat _ (L32_lt n hn)) Tryd.underlying9 (v := .int .u8 (uvl n)) ⟨by rw [tabU_size]; exact L32_lt n hn, ?_⟩ rfl ?_
  · rw [atB_get, U_L32 n hn]
  refine wk_conv rfl Tryd.underlying5 Tryd.underlying3 rfl ?_
  refine wk_assign rfl rfl ?_
  refine wk_nil ?_
  refine wk_ret r0 rfl rfl ⟨congrArg (fun z => Ending.returned (.int .i64 z)) ?_, rfl⟩
  exact i64_nat _ (by unfold uvl; (repeat' split) <;> omega)

theorem uv_cases (n : Nat) (hn : n < 4294967296) : (n < 128 ∧ uv n = [UInt8.ofNat n]) ∨ (128 ≤ n ∧ n < 16384 ∧ uv n = [UInt8.ofNat (n % 128 + 128), UInt8.ofNat (n / 128)]) ∨
    (16384 ≤ n ∧ n < 2097152 ∧ uv n = [UInt8.ofNat (n % 128 + 128), UInt8.ofNat (n / 128 % 128 + 128), UInt8.ofNat (n / 16384)]) ∨
    (2097152 ≤ n ∧ n < 268435456 ∧ uv n = [UInt8.ofNat (n % 128 + 128), UInt8.ofNat (n / 128 % 128 + 128), UInt8.ofNat (n / 16384 % 128 + 128), UInt8.ofNat (n / 2097152)]) ∨
    (268435456 ≤ n ∧ uv n = [UInt8.ofNat (n % 128 + 128), UInt8.ofNat (n / 128 % 128 + 128), UInt8.ofNat (n / 16384 % 128 + 128), UInt8.ofNat (n / 2097152 % 128 + 128), UInt8.ofNat (n / 268435456)]) := by
  have d2 : n / 128 / 128 = n / 16384 := Nat.div_div_eq_div_mul ..
  have d3 : n / 16384 / 128 = n / 2097152 := Nat.div_div_eq_div_mul ..
  have d4 : n / 2097152 / 128 = n / 268435456 := Nat.div_div_eq_div_mul ..
  have e : uv n = uvF 9 n := rfl
  by_cases h1 : n < 128
  · exact .inl ⟨h1, by rw [e, uvF, if_pos h1]⟩
  by_cases h2 : n < 16384
  · exact .inr (.inl ⟨by omega, h2, by rw [e, uvF, if_neg h1, uvF, if_pos (by omega)]⟩)
  by_cases h3 : n < 2097152
  · exact .inr (.inr (.inl ⟨by omega, h3, by rw [e, uvF, if_neg h1, uvF, if_neg (by omega), uvF, d2, if_pos (by omega)]⟩))
  by_cases h4 : n < 268435456
  · exact .inr (.inr (.inr (.inl ⟨by omega, h4, by rw [e, uvF, if_neg h1, uvF, if_neg (by omega), uvF, d2, if_neg (by omega), uvF, d3, if_pos (by omega)]⟩)))
  · exact .inr (.inr (.inr (.inr ⟨by omega, by rw [e, uvF, if_neg h1, uvF, if_neg (by omega), uvF, d2, if_neg (by omega), uvF, d3, if_neg (by omega), uvF, d4, if_pos (by omega)]⟩)))

set_option maxRecDepth 100000 in
theorem AppendUvarint_any : UContract Tryd.prog 5 22 := by
  intro w base d bs n hown hb hn hs
  have e0 : ∀ k m : Nat, m = 2 ^ k → (n : Int).fdiv (2 ^ k) = ((n / m : Nat) : Int) := fun k m h => by rw [fdiv_nat, h]
  have e7 : (n : Int).fdiv (2 ^ min (Int.toNat 7) IntKind.u32.bits) = ((n / 128 : Nat) : Int) := e0 7 128 rfl
  have e14 : (n : Int).fdiv (2 ^ min (Int.toNat 14) IntKind.u32.bits) = ((n / 16384 : Nat) : Int) := e0 14 16384 rfl
  have e21 : (n : Int).fdiv (2 ^ min (Int.toNat 21) IntKind.u32.bits) = ((n / 2097152 : Nat) : Int) := e0 21 2097152 rfl
  have e28 : (n : Int).fdiv (2 ^ min (Int.toNat 28) IntKind.u32.bits) = ((n / 268435456 : Nat) : Int) := e0 28 268435456 rfl
  refine calls_wk (args := [d, .int .u32 n]) Tryd.func22 rfl rfl ?_
  refine wk_seq ?_
  refine wk_reg (id := 0) ?_
  refine wk_assign rfl rfl ?_
  refine wk_nil ?_
  refine wk_seq ?_
  refine wk_seq ?_
  refine wk_reg (id := 1) ?_
  refine wk_move rfl rfl ?_
  refine wk_call Tryd.call55 (vs := [.int .u32 n]) rfl rfl ((UvarintLen_any w n hn).mono ?_)
  rintro e w' ⟨rfl, rfl⟩
  refine ⟨_, rfl, ?_⟩
  rcases uv_cases n hn with ⟨h1, hu⟩ | ⟨h0, h1, hu⟩ | ⟨h0, h1, hu⟩ | ⟨h0, h1, hu⟩ | ⟨h1, hu⟩
  · have hl : uvl n = 1 := by unfold uvl; rw [if_pos h1]
    rw [hl]
    refine wk_nil ?_
    refine wk_block ?_
    refine wk_seq ?_
    refine wk_reg (id := 2) ?_
    refine wk_cmp rfl rfl rfl rfl ?_
    refine wk_assign rfl rfl ?_
    refine wk_nil ?_
    refine wk_condF rfl ?_
    refine wk_seq ?_
    refine wk_reg (id := 4) ?_
    refine wk_cmp rfl rfl rfl rfl ?_
    refine wk_assign rfl rfl ?_
    refine wk_nil ?_
    refine wk_condF rfl ?_
    refine wk_seq ?_
    refine wk_reg (id := 6) ?_
    refine wk_cmp rfl rfl rfl rfl ?_
    refine wk_assign rfl rfl ?_
    refine wk_nil ?_
    refine wk_condF rfl ?_
    refine wk_seq ?_
    refine wk_reg (id := 8) ?_
    refine wk_cmp rfl rfl rfl rfl ?_
    refine wk_assign rfl rfl ?_
    refine wk_nil ?_
    refine wk_condF rfl ?_
    refine wk_seq ?_
    refine wk_reg (id := 10) ?_
    refine wk_cmp rfl rfl rfl rfl ?_
    refine wk_assign rfl rfl ?_
    refine wk_nil ?_
    refine wk_condT rfl ?_
    refine wk_seq ?_
    refine wk_reg (id := 11) ?_
    refine wk_move rfl rfl ?_
    refine wk_move rfl rfl ?_
    refine wk_conv rfl Tryd.underlying64 Tryd.underlying5 rfl ?_
    refine wk_bs1 byteT rfl rfl ?_
    refine wk_append rfl rfl (app_new byteT hown hb (xs := uv n) hs ?_ (by rw [hu]; rfl) rfl) rfl ?_
    · rw [hu]
      exact cons_eq (lastg n h1) (rfl)
    · intro d' w' ho hg
      refine wk_assign rfl rfl ?_
      refine wk_nil ?_
      exact wk_ret (rb r0) rfl rfl ⟨d', rfl, ho, below_new hb hg⟩
  · have hl : uvl n = 2 := by unfold uvl; rw [if_neg (by omega), if_pos h1]
    rw [hl]
    refine wk_nil ?_
    refine wk_block ?_
    refine wk_seq ?_
    refine wk_reg (id := 2) ?_
    refine wk_cmp rfl rfl rfl rfl ?_
    refine wk_assign rfl rfl ?_
    refine wk_nil ?_
    refine wk_condF rfl ?_
    refine wk_seq ?_
    refine wk_reg (id := 4) ?_
    refine wk_cmp rfl rfl rfl rfl ?_
    refine wk_assign rfl rfl ?_
    refine wk_nil ?_
    refine wk_condF rfl ?_
    refine wk_seq ?_
    refine wk_reg (id := 6) ?_
    refine wk_cmp rfl rfl rfl rfl ?_
    refine wk_assign rfl rfl ?_
    refine wk_nil ?_
    refine wk_condF rfl ?_
    refine wk_seq ?_
    refine wk_reg (id := 8) ?_
    refine wk_cmp rfl rfl rfl rfl ?_
    refine wk_assign rfl rfl ?_
    refine wk_nil ?_
    refine wk_condT rfl ?_
    refine wk_seq ?_
    refine wk_reg (id := 9) ?_
    refine wk_move rfl rfl ?_
    refine wk_move rfl rfl ?_
    refine wk_and rfl rfl rfl ?_
    refine wk_or rfl rfl rfl ?_
    refine wk_conv rfl Tryd.underlying64 Tryd.underlying5 rfl ?_
    refine wk_move rfl rfl ?_
    refine wk_shr rfl rfl (by decide) rfl ?_
    refine wk_conv rfl Tryd.underlying64 Tryd.underlying5 rfl ?_
    refine wk_bs2 byteT rfl rfl rfl ?_
    refine wk_append rfl rfl (app_new byteT hown hb (xs := uv n) hs ?_ (by rw [hu]; rfl) rfl) rfl ?_
    · rw [hu]
      exact cons_eq (grp n hn) (cons_eq ((by rw [e7]; exact lastg5 _ (by omega))) (rfl))
    · intro d' w' ho hg
      refine wk_assign rfl rfl ?_
      refine wk_nil ?_
      exact wk_ret (rb r0) rfl rfl ⟨d', rfl, ho, below_new hb hg⟩
  · have hl : uvl n = 3 := by unfold uvl; rw [if_neg (by omega), if_neg (by omega), if_pos h1]
    rw [hl]
    refine wk_nil ?_
    refine wk_block ?_
    refine wk_seq ?_
    refine wk_reg (id := 2) ?_
    refine wk_cmp rfl rfl rfl rfl ?_
    refine wk_assign rfl rfl ?_
    refine wk_nil ?_
    refine wk_condF rfl ?_
    refine wk_seq ?_
    refine wk_reg (id := 4) ?_
    refine wk_cmp rfl rfl rfl rfl ?_
    refine wk_assign rfl rfl ?_
    refine wk_nil ?_
    refine wk_condF rfl ?_
    refine wk_seq ?_
    refine wk_reg (id := 6) ?_
    refine wk_cmp rfl rfl rfl rfl ?_
    refine wk_assign rfl rfl ?_
    refine wk_nil ?_
    refine wk_condT rfl ?_
    refine wk_seq ?_
    refine wk_reg (id := 7) ?_
    refine wk_move rfl rfl ?_
    refine wk_move rfl rfl ?_
    refine wk_and rfl rfl rfl ?_
    refine wk_or rfl rfl rfl ?_
    refine wk_conv rfl Tryd.underlying64 Tryd.underlying5 rfl ?_
    refine wk_move rfl rfl ?_
    refine wk_shr rfl rfl (by decide) rfl ?_
    refine wk_and rfl rfl rfl ?_
    refine wk_or rfl rfl rfl ?_
    refine wk_conv rfl Tryd.underlying64 Tryd.underlying5 rfl ?_
    refine wk_move rfl rfl ?_
    refine wk_shr rfl rfl (by decide) rfl ?_
    refine wk_conv rfl Tryd.underlying64 Tryd.underlying5 rfl ?_
    refine wk_bs3 byteT rfl rfl rfl rfl ?_
    refine wk_append rfl rfl (app_new byteT hown hb (xs := uv n) hs ?_ (by rw [hu]; rfl) rfl) rfl ?_
    · rw [hu]
      exact cons_eq (grp n hn) (cons_eq ((by rw [e7]; exact grp _ (by omega))) (cons_eq ((by rw [e14]; exact lastg5 _ (by omega))) (rfl)))
    · intro d' w' ho hg
      refine wk_assign rfl rfl ?_
      refine wk_nil ?_
      exact wk_ret (rb r0) rfl rfl ⟨d', rfl, ho, below_new hb hg⟩
  · have hl : uvl n = 4 := by unfold uvl; rw [if_neg (by omega), if_neg (by omega), if_neg (by omega), if_pos h1]
    rw [hl]
    refine wk_nil ?_
    refine wk_block ?_
    refine wk_seq ?_
    refine wk_reg (id := 2) ?_
    refine wk_cmp rfl rfl rfl rfl ?_
    refine wk_assign rfl rfl ?_
    refine wk_nil ?_
    refine wk_condF rfl ?_
    refine wk_seq ?_
    refine wk_reg (id := 4) ?_
    refine wk_cmp rfl rfl rfl rfl ?_
    refine wk_assign rfl rfl ?_
    refine wk_nil ?_
    refine wk_condT rfl ?_
    refine wk_seq ?_
    refine wk_reg (id := 5) ?_
    refine wk_move rfl rfl ?_
    refine wk_move rfl rfl ?_
    refine wk_and rfl rfl rfl ?_
    refine wk_or rfl rfl rfl ?_
    refine wk_conv rfl Tryd.underlying64 Tryd.underlying5 rfl ?_
    refine wk_move rfl rfl ?_
    refine wk_shr rfl rfl (by decide) rfl ?_
    refine wk_and rfl rfl rfl ?_
    refine wk_or rfl rfl rfl ?_
    refine wk_conv rfl Tryd.underlying64 Tryd.underlying5 rfl ?_
    refine wk_move rfl rfl ?_
    refine wk_shr rfl rfl (by decide) rfl ?_
    refine wk_and rfl rfl rfl ?_
    refine wk_or rfl rfl rfl ?_
    refine wk_conv rfl Tryd.underlying64 Tryd.underlying5 rfl ?_
    refine wk_move rfl rfl ?_
    refine wk_shr rfl rfl (by decide) rfl ?_
    refine wk_conv rfl Tryd.underlying64 Tryd.underlying5 rfl ?_
    refine wk_bs4 byteT rfl rfl rfl rfl rfl ?_
    refine wk_append rfl rfl (app_new byteT hown hb (xs := uv n) hs ?_ (by rw [hu]; rfl) rfl) rfl ?_
    · rw [hu]
      exact cons_eq (grp n hn) (cons_eq ((by rw [e7]; exact grp _ (by omega))) (cons_eq ((by rw [e14]; exact grp _ (by omega))) (cons_eq ((by rw [e21]; exact lastg5 _ (by omega))) (rfl))))
    · intro d' w' ho hg
      refine wk_assign rfl rfl ?_
      refine wk_nil ?_
      exact wk_ret (rb r0) rfl rfl ⟨d', rfl, ho, below_new hb hg⟩
  · have hl : uvl n = 5 := by unfold uvl; rw [if_neg (by omega), if_neg (by omega), if_neg (by omega), if_neg (by omega)]
    rw [hl]
    refine wk_nil ?_
    refine wk_block ?_
    refine wk_seq ?_
    refine wk_reg (id := 2) ?_
    refine wk_cmp rfl rfl rfl rfl ?_
    refine wk_assign rfl rfl ?_
    refine wk_nil ?_
    refine wk_condT rfl ?_
    refine wk_seq ?_
    refine wk_reg (id := 3) ?_
    refine wk_move rfl rfl ?_
    refine wk_move rfl rfl ?_
    refine wk_and rfl rfl rfl ?_
    refine wk_or rfl rfl rfl ?_
    refine wk_conv rfl Tryd.underlying64 Tryd.underlying5 rfl ?_
    refine wk_move rfl rfl ?_
    refine wk_shr rfl rfl (by decide) rfl ?_
    refine wk_and rfl rfl rfl ?_
    refine wk_or rfl rfl rfl ?_
    refine wk_conv rfl Tryd.underlying64 Tryd.underlying5 rfl ?_
    refine wk_move rfl rfl ?_
    refine wk_shr rfl rfl (by decide) rfl ?_
    refine wk_and rfl rfl rfl ?_
    refine wk_or rfl rfl rfl ?_
    refine wk_conv rfl Tryd.underlying64 Tryd.underlying5 rfl ?_
    refine wk_move rfl rfl ?_
    refine wk_shr rfl rfl (by decide) rfl ?_
    refine wk_and rfl rfl rfl ?_
    refine wk_or rfl rfl rfl ?_
    refine wk_conv rfl Tryd.underlying64 Tryd.underlying5 rfl ?_
    refine wk_move rfl rfl ?_
    refine wk_shr rfl rfl (by decide) rfl ?_
    refine wk_conv rfl Tryd.underlying64 Tryd.underlying5 rfl ?_
    refine wk_bs5 byteT rfl rfl rfl rfl rfl rfl ?_
    refine wk_append rfl rfl (app_new byteT hown hb (xs := uv n) hs ?_ (by rw [hu]; rfl) rfl) rfl ?_
    · rw [hu]
      exact cons_eq (grp n hn) (cons_eq ((by rw [e7]; exact grp _ (by omega))) (cons_eq ((by rw [e14]; exact grp _ (by omega))) (cons_eq ((by rw [e21]; exact grp _ (by omega))) (cons_eq ((by rw [e28]; exact lastg5 _ (by omega))) (rfl)))))
    · intro d' w' ho hg
      refine wk_assign rfl rfl ?_
      refine wk_nil ?_
      exact wk_ret (rb r0) rfl rfl ⟨d', rfl, ho, below_new hb hg⟩

/-! ## the contracts as the table wants them -/
theorem c_AppendInt16 : WContract Tryd.prog 5 16 .i16 := by
  intro w base d v bs ks cs hown hr hk hc hb hs
  obtain ⟨n, rfl, rfl, _⟩ := rep_int (k := .i16) rfl (by intro kk h; cases kk <;> first | (rename_i q; cases q <;> first | rfl | (simp [okP] at h)) | (simp [okP] at h)) hr hk hc
  exact AppendInt16_any w base d bs n hown hb (by simpa [wprim, be_length] using hs)
theorem c_AppendUint16 : WContract Tryd.prog 5 30 .u16 := by
  intro w base d v bs ks cs hown hr hk hc hb hs
  obtain ⟨n, rfl, rfl, _⟩ := rep_int (k := .u16) rfl (by intro kk h; cases kk <;> first | (rename_i q; cases q <;> first | rfl | (simp [okP] at h)) | (simp [okP] at h)) hr hk hc
  exact AppendUint16_any w base d bs n hown hb (by simpa [wprim, be_length] using hs)
theorem c_AppendInt32 : WContract Tryd.prog 5 15 .i32 := by
  intro w base d v bs ks cs hown hr hk hc hb hs
  obtain ⟨n, rfl, rfl, _⟩ := rep_int (k := .i32) rfl (by intro kk h; cases kk <;> first | (rename_i q; cases q <;> first | rfl | (simp [okP] at h)) | (simp [okP] at h)) hr hk hc
  exact AppendInt32_any w base d bs n hown hb (by simpa [wprim, be_length] using hs)
theorem c_AppendInt64 : WContract Tryd.prog 5 21 .i64 := by
  intro w base d v bs ks cs hown hr hk hc hb hs
  obtain ⟨n, rfl, rfl, _⟩ := rep_int (k := .i64) rfl (by intro kk h; cases kk <;> first | (rename_i q; cases q <;> first | rfl | (simp [okP] at h)) | (simp [okP] at h)) hr hk hc
  exact AppendInt64_any w base d bs n hown hb (by simpa [wprim, be_length] using hs)
theorem c_AppendString : WContract Tryd.prog 5 20 .str := by
  intro w base d v bs ks cs hown hr hk hc hb hs
  obtain ⟨s, rfl, rfl⟩ := rep_str rfl (by intro kk h; cases kk <;> first | rfl | (simp [okP] at h)) hr hk hc
  exact AppendString_any w base d bs s hown hb hs
theorem AppendCompactString_any (w : World) (base : Nat) (d : Value) (bs : List UInt8) (s : ByteArray) (hown : Own w base 5 d bs) (hb : base ≤ w.heap.size) (hs : bs.length + (cbytes s.data.toList).length ≤ lim) :
    Calls Tryd.prog 19 #[d, .string s] w fun e w' => ∃ d', e = .returned d' ∧ Own w' base 5 d' (bs ++ cbytes s.data.toList) ∧ Below base w w' := by
  have hss : s.data.toList.length = s.size := by rw [Array.length_toList]; rfl
  have hw : IntKind.u32.wrap (1 + IntKind.u32.wrap (s.size : Int)) = (((1 + s.size) % 4294967296 : Nat) : Int) := by
    simp only [IntKind.wrap, IntKind.bits, IntKind.signed]; simp
  rw [cbytes, List.length_append, hss] at hs
  refine calls_wk (args := [d, .string s]) Tryd.func19 rfl rfl ?_
  refine wk_seq ?_
  refine wk_reg (id := 0) ?_
  refine wk_assign rfl rfl ?_
  refine wk_nil ?_
  refine wk_seq ?_
  refine wk_reg (id := 1) ?_
  refine wk_move rfl rfl ?_
  refine wk_move rfl rfl ?_
  refine wk_strlen rfl Tryd.underlying9 rfl ?_
  refine wk_conv rfl Tryd.underlying3 Tryd.underlying64 rfl ?_
  refine wk_add rfl rfl rfl ?_
  refine wk_call Tryd.call22 (vs := [d, .int .u32 (((1 + s.size) % 4294967296 : Nat) : Int)]) (by rw [← hw]; rfl) rfl ((AppendUvarint_any w base d bs _ hown hb (Nat.mod_lt _ (by omega)) (by omega)).mono ?_)
  rintro e w1 ⟨d1, rfl, ho1, hg1⟩
  refine ⟨d1, rfl, ?_⟩
  refine wk_assign rfl rfl ?_
  refine wk_nil ?_
  refine wk_seq ?_
  refine wk_reg (id := 2) ?_
  refine wk_move rfl rfl ?_
  refine wk_move rfl rfl ?_
  refine wk_append rfl rfl (app_str byteT Tryd.underlying9 ho1 (Nat.le_trans hb hg1.size) (by rw [List.length_append, hss]; omega)) rfl ?_
  intro d' w' ho hg
  refine wk_assign rfl rfl ?_
  refine wk_nil ?_
  exact wk_ret r0 rfl rfl ⟨d', rfl, by rw [cbytes, hss, ← List.append_assoc]; exact ho, hg1.trans hg⟩
theorem c_AppendCompactString : WContract Tryd.prog 5 19 .cstr := by
  intro w base d v bs ks cs hown hr hk hc hb hs
  obtain ⟨s, rfl, rfl⟩ := rep_str rfl (by intro kk h; cases kk <;> first | rfl | (simp [okP] at h)) hr hk hc
  exact AppendCompactString_any w base d bs s hown hb hs
theorem c_AppendArrayLen : LContract Tryd.prog 5 18 .al := by
  intro w base d bs n nl hown hb hn hs
  simp only [wlen, be_length] at hs
  refine calls_wk (args := [d, .int .i64 n]) Tryd.func18 rfl rfl ?_
  refine wk_seq ?_
  refine wk_reg (id := 0) ?_
  refine wk_assign rfl rfl ?_
  refine wk_nil ?_
  refine wk_seq ?_
  refine wk_reg (id := 1) ?_
  refine wk_move rfl rfl ?_
  refine wk_move rfl rfl ?_
  refine wk_conv rfl Tryd.underlying3 Tryd.underlying21 rfl ?_
  refine wk_call Tryd.call15 (vs := [d, .int .i32 (IntKind.i32.wrap n)]) rfl rfl ((AppendInt32_any w base d bs _ hown hb hs).mono ?_)
  rintro e w' ⟨d', rfl, ho, hg⟩
  refine ⟨d', rfl, ?_⟩
  refine wk_assign rfl rfl ?_
  refine wk_nil ?_
  exact wk_ret r0 rfl rfl ⟨d', rfl, by rwa [be4_wrap _ _ rfl] at ho, hg⟩
theorem u32_1 (n : Nat) : IntKind.u32.wrap (1 + IntKind.u32.wrap (n : Int)) = (((1 + n) % 4294967296 : Nat) : Int) := by
  simp only [IntKind.wrap, IntKind.bits, IntKind.signed]; simp
theorem c_AppendCompactArrayLen : LContract Tryd.prog 5 17 .cal := by
  intro w base d bs n nl hown hb hn hs
  refine calls_wk (args := [d, .int .i64 n]) Tryd.func17 rfl rfl ?_
  refine wk_seq ?_
  refine wk_reg (id := 0) ?_
  refine wk_assign rfl rfl ?_
  refine wk_nil ?_
  refine wk_seq ?_
  refine wk_reg (id := 1) ?_
  refine wk_move rfl rfl ?_
  refine wk_move rfl rfl ?_
  refine wk_conv rfl Tryd.underlying3 Tryd.underlying64 rfl ?_
  refine wk_add rfl rfl rfl ?_
  refine wk_call Tryd.call22 (vs := [d, .int .u32 (((1 + n) % 4294967296 : Nat) : Int)]) (by rw [← u32_1]; rfl) rfl ((AppendUvarint_any w base d bs _ hown hb (Nat.mod_lt _ (by omega)) hs).mono ?_)
  rintro e w' ⟨d', rfl, ho, hg⟩
  refine ⟨d', rfl, ?_⟩
  refine wk_assign rfl rfl ?_
  refine wk_nil ?_
  exact wk_ret r0 rfl rfl ⟨d', rfl, ho, hg⟩
theorem cell_str {w : World} {b : Nat} {s : ByteArray} {t : TypeId} (h : w.heap[b]? = some (.cells #[.string s] t (0, 0))) : w.cell? ⟨b, 0, none⟩ = some (.string s) := by
  rw [cell_of_row w b 0 _ t (0, 0) h]; rfl
/-- A slice of bytes as an argument. -/
theorem bytes_arg {w : World} {X : Nat → Prop} {v : Value} {xs : List UInt8} (h : BytesRep0 w X v xs) : ∃ A c, v = .slice A xs.length c := by
  rcases h with ⟨⟨A0, rfl⟩, rfl⟩ | ⟨b, o, n, c, rfl, _, _, hl, _⟩
  · exact ⟨A0, 0, rfl⟩
  · exact ⟨_, c, by rw [hl]⟩
theorem AppendBytes_any (w : World) (base : Nat) (d v : Value) (bs xs : List UInt8) (hown : Own w base 5 d bs) (hv : BytesRep0 w (fun b => base ≤ b) v xs) (hb : base ≤ w.heap.size) (hs : bs.length + (be 4 xs.length ++ xs).length ≤ lim) :
    Calls Tryd.prog 26 #[d, v] w fun e w' => ∃ d', e = .returned d' ∧ Own w' base 5 d' (bs ++ (be 4 xs.length ++ xs)) ∧ Below base w w' := by
  obtain ⟨A, c, rfl⟩ := bytes_arg hv
  rw [List.length_append, be_length] at hs
  refine calls_wk (args := [d, .slice A xs.length c]) Tryd.func26 rfl rfl ?_
  refine wk_seq ?_
  refine wk_reg (id := 0) ?_
  refine wk_assign rfl rfl ?_
  refine wk_nil ?_
  refine wk_seq ?_
  refine wk_reg (id := 1) ?_
  refine wk_move rfl rfl ?_
  refine wk_move rfl rfl ?_
  refine wk_slen rfl Tryd.underlying22 rfl ?_
  refine wk_conv rfl Tryd.underlying3 Tryd.underlying21 rfl ?_
  refine wk_call Tryd.call15 (vs := [d, .int .i32 (IntKind.i32.wrap xs.length)]) rfl rfl ((AppendInt32_any w base d bs _ hown hb (by omega)).mono ?_)
  rintro e w1 ⟨d1, rfl, ho1, hg1⟩
  refine ⟨d1, rfl, ?_⟩
  rw [be4_wrap _ _ rfl] at ho1
  refine wk_assign rfl rfl ?_
  refine wk_nil ?_
  refine wk_seq ?_
  refine wk_reg (id := 2) ?_
  refine wk_move rfl rfl ?_
  refine wk_move rfl rfl ?_
  refine wk_append rfl rfl (app_rep byteT (hv.keep (Keeps.of_below hg1)) ho1 (Nat.le_trans hb hg1.size) (by rw [List.length_append, be_length]; omega)) rfl ?_
  intro d' w' ho hg
  refine wk_assign rfl rfl ?_
  refine wk_nil ?_
  exact wk_ret r0 rfl rfl ⟨d', rfl, by rw [← List.append_assoc]; exact ho, hg1.trans hg⟩
theorem AppendCompactBytes_any (w : World) (base : Nat) (d v : Value) (bs xs : List UInt8) (hown : Own w base 5 d bs) (hv : BytesRep0 w (fun b => base ≤ b) v xs) (hb : base ≤ w.heap.size) (hs : bs.length + (cbytes xs).length ≤ lim) :
    Calls Tryd.prog 25 #[d, v] w fun e w' => ∃ d', e = .returned d' ∧ Own w' base 5 d' (bs ++ cbytes xs) ∧ Below base w w' := by
  obtain ⟨A, c, rfl⟩ := bytes_arg hv
  rw [cbytes, List.length_append] at hs
  refine calls_wk (args := [d, .slice A xs.length c]) Tryd.func25 rfl rfl ?_
  refine wk_seq ?_
  refine wk_reg (id := 0) ?_
  refine wk_assign rfl rfl ?_
  refine wk_nil ?_
  refine wk_seq ?_
  refine wk_reg (id := 1) ?_
  refine wk_move rfl rfl ?_
  refine wk_move rfl rfl ?_
  refine wk_slen rfl Tryd.underlying22 rfl ?_
  refine wk_conv rfl Tryd.underlying3 Tryd.underlying64 rfl ?_
  refine wk_add rfl rfl rfl ?_
  refine wk_call Tryd.call22 (vs := [d, .int .u32 (((1 + xs.length) % 4294967296 : Nat) : Int)]) (by rw [← u32_1]; rfl) rfl ((AppendUvarint_any w base d bs _ hown hb (Nat.mod_lt _ (by omega)) (by omega)).mono ?_)
  rintro e w1 ⟨d1, rfl, ho1, hg1⟩
  refine ⟨d1, rfl, ?_⟩
  refine wk_assign rfl rfl ?_
  refine wk_nil ?_
  refine wk_seq ?_
  refine wk_reg (id := 2) ?_
  refine wk_move rfl rfl ?_
  refine wk_move rfl rfl ?_
  refine wk_append rfl rfl (app_rep byteT (hv.keep (Keeps.of_below hg1)) ho1 (Nat.le_trans hb hg1.size) (by rw [List.length_append]; omega)) rfl ?_
  intro d' w' ho hg
  refine wk_assign rfl rfl ?_
  refine wk_nil ?_
  exact wk_ret r0 rfl rfl ⟨d', rfl, by rw [cbytes, ← List.append_assoc]; exact ho, hg1.trans hg⟩
theorem c_AppendBytes : WContract Tryd.prog 5 26 .byt := by
  intro w base d v bs ks cs hown hr hk hc hb hs
  rcases rep_bytes rfl (by intro kk h; cases kk <;> first | rfl | (simp [okP] at h)) hr hk hc with ⟨rfl, rfl⟩ | ⟨xs, rfl, hv⟩
  · have := AppendBytes_any w base d (.slice none 0 0) bs [] hown (.inl ⟨⟨none, rfl⟩, rfl⟩) hb (by simpa [wprim] using hs)
    simpa [wprim] using this
  · exact AppendBytes_any w base d v bs xs hown (.inr hv) hb hs
theorem c_AppendCompactBytes : WContract Tryd.prog 5 25 .cbyt := by
  intro w base d v bs ks cs hown hr hk hc hb hs
  rcases rep_bytes rfl (by intro kk h; cases kk <;> first | rfl | (simp [okP] at h)) hr hk hc with ⟨rfl, rfl⟩ | ⟨xs, rfl, hv⟩
  · have := AppendCompactBytes_any w base d (.slice none 0 0) bs [] hown (.inl ⟨⟨none, rfl⟩, rfl⟩) hb (by simpa [wprim] using hs)
    simpa [wprim] using this
  · exact AppendCompactBytes_any w base d v bs xs hown (.inr hv) hb hs
end Go.Proofs.YtbcfmhgcpijfnaaDoor
