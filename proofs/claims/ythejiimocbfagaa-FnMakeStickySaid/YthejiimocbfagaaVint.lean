/-
  Numbers with a sign, in groups, in turns; texts and octets with their lengths ahead.
-/
import Derived.Test.YthejiimocbfagaaKbin
import Derived.Test.YthejiimocbfagaaSpecN
import Derived.Test.YthejiimocbfagaaSpecS
import Derived.Test.YthejiimocbfagaaEngF
import Derived.Test.YthejiimocbfagaaEngI
set_option linter.unusedVariables false
set_option linter.unusedSimpArgs false
namespace Go.Proofs.Ythejiimocbfagaa
open Go Go.RowKit Go.Proofs.Eng
set_option maxRecDepth 20000
set_option maxHeartbeats 4000000

theorem run_xor {P : Program} {ρ : Operand → Value} {w : World} {o : Oper} {x y : Operand} {t t' : TypeId} {k : IntKind} {n m : Int} (ho : o.op = .binOp .xor t x y t') (hx : ρ x = .int k n) (hy : ρ y = .int k m) :
    (execOp ρ o).run P w = .ok (.value (.int k (k.wrap ((BitVec.ofInt k.bits n ^^^ BitVec.ofInt k.bits m).toNat)))) w := by
  simp [execOp, ho, hx, hy, eqGuard, binOp, Op.intBits]
theorem wk_xorV {P : Program} {Q : Exit → Act → World → Prop} {nT : Nat} {σ : Sv} {k : List TD} {w : World} {all : Array Oper} {l : List Oper} {ty : TypeId} {ps : String} {af : Array Edge} {d : Nat} {x y : Operand} {t t' : TypeId} {kk : IntKind} {n m r : Int}
    (hx : evs σ x = some (.int kk n)) (hy : evs σ y = some (.int kk m)) (hv : kk.wrap ((BitVec.ofInt kk.bits n ^^^ BitVec.ofInt kk.bits m).toNat) = r) (hd : Nat.blt d nT = true) (h : wk P Q nT ((d, .int kk r) :: σ) (.ops all l :: k) w) :
    wk P Q nT σ (.ops all (⟨some d, .binOp .xor t x y t', ty, ps, af, none⟩ :: l) :: k) w := by
  subst hv
  exact wk_val (fun _ ha => run_xor rfl (ha.ev hx) (ha.ev hy)) hd h
theorem xor0_32 (n : Nat) (hn : n < 4294967296) : IntKind.u32.wrap ((BitVec.ofInt 32 (n : Int) ^^^ BitVec.ofInt 32 0).toNat) = ((n : Nat) : Int) := by
  have h : (BitVec.ofInt 32 (n : Int) ^^^ BitVec.ofInt 32 0).toNat = n := by
    rw [BitVec.toNat_xor]
    have h1 : (BitVec.ofInt 32 (n : Int)).toNat = n := by rw [BitVec.ofInt_natCast, BitVec.toNat_ofNat]; exact Nat.mod_eq_of_lt hn
    have h2 : (BitVec.ofInt 32 0).toNat = 0 := by decide
    rw [h1, h2, Nat.xor_zero]
  rw [h, u32_nat n hn]
theorem xor0_64 (n : Nat) (hn : n < 18446744073709551616) : IntKind.u64.wrap ((BitVec.ofInt 64 (n : Int) ^^^ BitVec.ofInt 64 0).toNat) = ((n : Nat) : Int) := by
  have h : (BitVec.ofInt 64 (n : Int) ^^^ BitVec.ofInt 64 0).toNat = n := by
    rw [BitVec.toNat_xor]
    have h1 : (BitVec.ofInt 64 (n : Int)).toNat = n := by rw [BitVec.ofInt_natCast, BitVec.toNat_ofNat]; exact Nat.mod_eq_of_lt hn
    have h2 : (BitVec.ofInt 64 0).toNat = 0 := by decide
    rw [h1, h2, Nat.xor_zero]
  rw [h, u64w n hn]
/-- A number in turns: what there is of it here. -/
def Zig (n : Int) (z : Nat) : Prop := (n = -1 ∧ z = 1) ∨ ∃ i : Nat, n = (i : Int) ∧ i < 1073741824 ∧ z = 2 * i
theorem Zig.nat {i : Nat} (h : i < 1073741824) : Zig (i : Int) (2 * i) := .inr ⟨i, rfl, h, rfl⟩
theorem fdiv_small (i k : Nat) (h : i < 2 ^ k) : (i : Int).fdiv ((2 : Int) ^ k) = 0 := by
  rw [fdiv_nat, Nat.div_eq_of_lt h]
  rfl
/-! ## the package -/
theorem AppendVarint_any (w : World) (base : Nat) (d : Value) (bs : List UInt8) (n : Int) (z : Nat) (hz : Zig n z) (hown : Own w base 5 d bs) (hb : base ≤ w.heap.size) (hs : bs.length + (uv z).length ≤ lim) :
    Calls Try.prog 33 #[d, .int .i32 n] w fun e w' => ∃ d', e = .returned d' ∧ Own w' base 5 d' (bs ++ uv z) ∧ Below base w w' := by
  refine calls_wk (args := [d, .int .i32 n]) Try.func33 rfl rfl ?_
  rcases hz with ⟨rfl, rfl⟩ | ⟨i, rfl, hi, rfl⟩
  · have e0 : IntKind.u32.wrap (-1) = 4294967295 := by decide
    have e1 : IntKind.u32.wrap (4294967295 * 2 ^ 1) = 4294967294 := by decide
    have e2 : IntKind.u32.wrap ((-1 : Int).fdiv (2 ^ (min (Int.toNat 31) IntKind.i32.bits))) = 4294967295 := by decide
    have e3 : IntKind.u32.wrap ((BitVec.ofInt IntKind.u32.bits 4294967294 ^^^ BitVec.ofInt IntKind.u32.bits 4294967295).toNat) = ((1 : Nat) : Int) := by decide
    refine wk_seq ?_
    refine wk_reg (id := 0) ?_
    refine wk_assign rfl rfl ?_
    refine wk_nil ?_
    refine wk_seq ?_
    refine wk_reg (id := 1) ?_
    refine wk_move rfl rfl ?_
    refine wk_move rfl rfl ?_
    refine wk_convV rfl Try.underlying21 Try.underlying69 (by with_reducible assumption) rfl ?_
    refine wk_shl 1 rfl rfl rfl (by with_reducible assumption) rfl ?_
    refine wk_move rfl rfl ?_
    refine wk_shr rfl rfl (by decide) rfl ?_
    refine wk_convV rfl Try.underlying21 Try.underlying69 (by with_reducible assumption) rfl ?_
    refine wk_xorV rfl rfl e3 rfl ?_
    skip
    refine wk_call Try.call35 (vs := [d, .int .u32 ((1 : Nat) : Int)]) rfl rfl ((AppendUvarint_any w base d bs 1 hown hb (by decide) hs).mono ?_)
    rintro e w1 ⟨d1, rfl, ho1, hb1⟩
    refine ⟨_, rfl, ?_⟩
    refine wk_assign rfl rfl ?_
    refine wk_nil ?_
    exact wk_ret r0 rfl rfl ⟨d1, rfl, ho1, hb1⟩
  · have e0 : IntKind.u32.wrap (i : Int) = (i : Int) := u32_nat i (by omega)
    have e1 : IntKind.u32.wrap ((i : Int) * 2 ^ 1) = ((2 * i : Nat) : Int) := by
      have : (i : Int) * 2 ^ 1 = ((2 * i : Nat) : Int) := by omega
      rw [this]
      exact u32_nat _ (by omega)
    have e2 : IntKind.u32.wrap ((i : Int).fdiv (2 ^ (min (Int.toNat 31) IntKind.i32.bits))) = 0 := by
      have : (i : Int).fdiv (2 ^ (min (Int.toNat 31) IntKind.i32.bits)) = 0 := fdiv_small i 31 (by omega)
      rw [this]
      rfl
    have e3 : IntKind.u32.wrap ((BitVec.ofInt IntKind.u32.bits ((2 * i : Nat) : Int) ^^^ BitVec.ofInt IntKind.u32.bits 0).toNat) = ((2 * i : Nat) : Int) := xor0_32 (2 * i) (by omega)
    refine wk_seq ?_
    refine wk_reg (id := 0) ?_
    refine wk_assign rfl rfl ?_
    refine wk_nil ?_
    refine wk_seq ?_
    refine wk_reg (id := 1) ?_
    refine wk_move rfl rfl ?_
    refine wk_move rfl rfl ?_
    refine wk_convV rfl Try.underlying21 Try.underlying69 (by with_reducible assumption) rfl ?_
    refine wk_shl 1 rfl rfl rfl (by with_reducible assumption) rfl ?_
    refine wk_move rfl rfl ?_
    refine wk_shr rfl rfl (by decide) rfl ?_
    refine wk_convV rfl Try.underlying21 Try.underlying69 (by with_reducible assumption) rfl ?_
    refine wk_xorV rfl rfl e3 rfl ?_
    skip
    refine wk_call Try.call35 (vs := [d, .int .u32 ((2 * i : Nat) : Int)]) rfl rfl ((AppendUvarint_any w base d bs (2 * i) hown hb (by omega) hs).mono ?_)
    rintro e w1 ⟨d1, rfl, ho1, hb1⟩
    refine ⟨_, rfl, ?_⟩
    refine wk_assign rfl rfl ?_
    refine wk_nil ?_
    exact wk_ret r0 rfl rfl ⟨d1, rfl, ho1, hb1⟩
theorem i32w (n : Nat) (h : n < 2147483648) : IntKind.i32.wrap (n : Int) = n := by
  simp [IntKind.wrap, IntKind.bits, IntKind.signed]
  split <;> omega
theorem AppendVarintString_any (w : World) (base : Nat) (d : Value) (bs : List UInt8) (s : ByteArray) (hown : Own w base 5 d bs) (hb : base ≤ w.heap.size) (hsz : s.size < 1073741824) (hs : bs.length + ((uv (2 * s.size)).length + s.size) ≤ lim) :
    Calls Try.prog 27 #[d, .string s] w fun e w' => ∃ d', e = .returned d' ∧ Own w' base 5 d' (bs ++ (uv (2 * s.size) ++ s.data.toList)) ∧ Below base w w' := by
  have hss : s.data.toList.length = s.size := by rw [Array.length_toList]; rfl
  have hw : IntKind.i32.wrap (s.size : Int) = (s.size : Int) := i32w _ (by omega)
  refine calls_wk (args := [d, .string s]) Try.func27 rfl rfl ?_
  refine wk_seq ?_
  refine wk_reg (id := 0) ?_
  refine wk_assign rfl rfl ?_
  refine wk_nil ?_
  refine wk_seq ?_
  refine wk_reg (id := 1) ?_
  refine wk_move rfl rfl ?_
  refine wk_move rfl rfl ?_
  refine wk_strlen rfl Try.underlying9 rfl ?_
  refine wk_convV rfl Try.underlying3 Try.underlying21 (by with_reducible assumption) rfl ?_
  refine wk_call Try.call33 (vs := [d, .int .i32 (s.size : Int)]) rfl rfl ((AppendVarint_any w base d bs _ _ (Zig.nat hsz) hown hb (by omega)).mono ?_)
  rintro e w1 ⟨d1, rfl, ho1, hb1⟩
  refine ⟨_, rfl, ?_⟩
  refine wk_assign rfl rfl ?_
  refine wk_nil ?_
  refine wk_seq ?_
  refine wk_reg (id := 2) ?_
  refine wk_move rfl rfl ?_
  refine wk_move rfl rfl ?_
  refine wk_append rfl rfl (app_str byteT Try.underlying9 ho1 (Nat.le_trans hb hb1.size) (by rw [List.length_append, hss]; omega)) rfl ?_
  intro d' w' ho hg
  refine wk_assign rfl rfl ?_
  refine wk_nil ?_
  exact wk_ret r0 rfl rfl ⟨d', rfl, by rw [← List.append_assoc]; exact ho, hb1.trans hg⟩
/-- Octets that may be null, in memory: the null ones are nil, the others are not. -/
def OctRep (w : World) (X : Nat → Prop) (v : Value) (nl : Bool) (l : List UInt8) : Prop := (nl = true → v = .slice none 0 0) ∧ (nl = false → BytesRep0 w X v l ∧ ∃ a c, v = .slice (some a) l.length c)
def octB (nl : Bool) (l : List UInt8) : List UInt8 := if nl then uv 1 else uv (2 * l.length) ++ l
theorem AppendVarintBytes_any (w : World) (base : Nat) (X : Nat → Prop) (d v : Value) (bs l : List UInt8) (nl : Bool) (hv : OctRep w X v nl l) (hX : ∀ b, base ≤ b → X b) (hown : Own w base 5 d bs) (hb : base ≤ w.heap.size) (hsz : l.length < 1073741824) (hs : bs.length + (octB nl l).length ≤ lim) :
    Calls Try.prog 28 #[d, v] w fun e w' => ∃ d', e = .returned d' ∧ Own w' base 5 d' (bs ++ octB nl l) ∧ Below base w w' := by
  cases nl with
  | true =>
    obtain rfl := hv.1 rfl
    refine calls_wk (args := [d, .slice none 0 0]) Try.func28 rfl rfl ?_
    refine wk_seq ?_
    refine wk_reg (id := 0) ?_
    refine wk_assign rfl rfl ?_
    refine wk_nil ?_
    refine wk_seq ?_
    refine wk_seq ?_
    refine wk_reg (id := 1) ?_
    refine wk_move rfl rfl ?_
    refine wk_eqnil rfl rfl Try.underlying22 rfl ?_
    refine wk_nil ?_
    refine wk_condT rfl ?_
    refine wk_seq ?_
    refine wk_reg (id := 2) ?_
    refine wk_move rfl rfl ?_
    refine wk_call Try.call33 (vs := [d, .int .i32 (-1)]) rfl rfl ((AppendVarint_any w base d bs _ _ (.inl ⟨rfl, rfl⟩) hown hb hs).mono ?_)
    rintro e w1 ⟨d1, rfl, ho1, hb1⟩
    refine ⟨_, rfl, ?_⟩
    refine wk_assign rfl rfl ?_
    refine wk_nil ?_
    exact wk_ret r0 rfl rfl ⟨d1, rfl, ho1, hb1⟩
  | false =>
    obtain ⟨hr, a, c, rfl⟩ := hv.2 rfl
    have hs' : bs.length + ((uv (2 * l.length)).length + l.length) ≤ lim := by
      have e : octB false l = uv (2 * l.length) ++ l := rfl
      rw [e, List.length_append] at hs
      exact hs
    have hw : IntKind.i32.wrap (l.length : Int) = (l.length : Int) := i32w _ (by omega)
    refine calls_wk (args := [d, .slice (some a) l.length c]) Try.func28 rfl rfl ?_
    refine wk_seq ?_
    refine wk_reg (id := 0) ?_
    refine wk_assign rfl rfl ?_
    refine wk_nil ?_
    refine wk_seq ?_
    refine wk_seq ?_
    refine wk_reg (id := 1) ?_
    refine wk_move rfl rfl ?_
    refine wk_eqnil rfl rfl Try.underlying22 rfl ?_
    refine wk_nil ?_
    refine wk_condF rfl ?_
    refine wk_skip ?_
    refine wk_seq ?_
    refine wk_reg (id := 3) ?_
    refine wk_move rfl rfl ?_
    refine wk_move rfl rfl ?_
    refine wk_slen rfl Try.underlying22 rfl ?_
    refine wk_convV rfl Try.underlying3 Try.underlying21 (by with_reducible assumption) rfl ?_
    refine wk_call Try.call33 (vs := [d, .int .i32 (l.length : Int)]) rfl rfl ((AppendVarint_any w base d bs _ _ (Zig.nat hsz) hown hb (by omega)).mono ?_)
    rintro e w1 ⟨d1, rfl, ho1, hb1⟩
    refine ⟨_, rfl, ?_⟩
    refine wk_assign rfl rfl ?_
    refine wk_nil ?_
    refine wk_seq ?_
    refine wk_reg (id := 4) ?_
    refine wk_move rfl rfl ?_
    refine wk_move rfl rfl ?_
    refine wk_append rfl rfl (app_rep byteT ((hr.mono (Y := fun b => base ≤ b) (fun b _ h => hX b h)).keep (Keeps.of_below hb1)) ho1 (Nat.le_trans hb hb1.size) (by rw [List.length_append]; omega)) rfl ?_
    intro d' w' ho hg
    refine wk_assign rfl rfl ?_
    refine wk_nil ?_
    exact wk_ret r0 rfl rfl ⟨d', rfl, by rw [show octB false l = uv (2 * l.length) ++ l from rfl, ← List.append_assoc]; exact ho, hb1.trans hg⟩
/-! ## the reference -/
theorem Turned_any (w : World) (n : Int) (z : Nat) (hz : Zig n z) : Calls Try.prog 30 #[.int .i64 n] w fun e w' => e = .returned (.int .u64 (z : Int)) ∧ w' = w := by
  refine calls_wk (args := [.int .i64 n]) Try.func30 rfl rfl ?_
  rcases hz with ⟨rfl, rfl⟩ | ⟨i, rfl, hi, rfl⟩
  · have e0 : IntKind.u64.wrap (-1) = 18446744073709551615 := by decide
    have e1 : IntKind.u64.wrap (18446744073709551615 * 2 ^ 1) = 18446744073709551614 := by decide
    have e2 : IntKind.u64.wrap ((-1 : Int).fdiv (2 ^ (min (Int.toNat 63) IntKind.i64.bits))) = 18446744073709551615 := by decide
    have e3 : IntKind.u64.wrap ((BitVec.ofInt IntKind.u64.bits 18446744073709551614 ^^^ BitVec.ofInt IntKind.u64.bits 18446744073709551615).toNat) = ((1 : Nat) : Int) := by decide
    refine wk_seq ?_
    refine wk_reg (id := 0) ?_
    refine wk_assign rfl rfl ?_
    refine wk_nil ?_
    refine wk_seq ?_
    refine wk_reg (id := 1) ?_
    refine wk_move rfl rfl ?_
    refine wk_convV rfl Try.underlying2 Try.underlying64 (by with_reducible assumption) rfl ?_
    refine wk_shl 1 rfl rfl rfl (by with_reducible assumption) rfl ?_
    refine wk_move rfl rfl ?_
    refine wk_shr rfl rfl (by decide) rfl ?_
    refine wk_convV rfl Try.underlying2 Try.underlying64 (by with_reducible assumption) rfl ?_
    refine wk_xorV rfl rfl e3 rfl ?_
    refine wk_assign rfl rfl ?_
    refine wk_nil ?_
    exact wk_ret r0 rfl rfl ⟨rfl, rfl⟩
  · have e0 : IntKind.u64.wrap (i : Int) = (i : Int) := u64w i (by omega)
    have e1 : IntKind.u64.wrap ((i : Int) * 2 ^ 1) = ((2 * i : Nat) : Int) := by
      have : (i : Int) * 2 ^ 1 = ((2 * i : Nat) : Int) := by omega
      rw [this]
      exact u64w _ (by omega)
    have e2 : IntKind.u64.wrap ((i : Int).fdiv (2 ^ (min (Int.toNat 63) IntKind.i64.bits))) = 0 := by
      have : (i : Int).fdiv (2 ^ (min (Int.toNat 63) IntKind.i64.bits)) = 0 := fdiv_small i 63 (by omega)
      rw [this]
      rfl
    have e3 : IntKind.u64.wrap ((BitVec.ofInt IntKind.u64.bits ((2 * i : Nat) : Int) ^^^ BitVec.ofInt IntKind.u64.bits 0).toNat) = ((2 * i : Nat) : Int) := xor0_64 (2 * i) (by omega)
    refine wk_seq ?_
    refine wk_reg (id := 0) ?_
    refine wk_assign rfl rfl ?_
    refine wk_nil ?_
    refine wk_seq ?_
    refine wk_reg (id := 1) ?_
    refine wk_move rfl rfl ?_
    refine wk_convV rfl Try.underlying2 Try.underlying64 (by with_reducible assumption) rfl ?_
    refine wk_shl 1 rfl rfl rfl (by with_reducible assumption) rfl ?_
    refine wk_move rfl rfl ?_
    refine wk_shr rfl rfl (by decide) rfl ?_
    refine wk_convV rfl Try.underlying2 Try.underlying64 (by with_reducible assumption) rfl ?_
    refine wk_xorV rfl rfl e3 rfl ?_
    refine wk_assign rfl rfl ?_
    refine wk_nil ?_
    exact wk_ret r0 rfl rfl ⟨rfl, rfl⟩
theorem Varint_any (w : World) (n : Int) (z : Nat) (hz : Zig n z) (hl : z < 4294967296) : Calls Try.prog 21 #[.int .i64 n] w fun e w' => ∃ d', e = .returned d' ∧ Own w' w.heap.size 5 d' (uv z) ∧ Below w.heap.size w w' := by
  refine calls_wk (args := [.int .i64 n]) Try.func21 rfl rfl ?_
  refine wk_seq ?_
  refine wk_reg (id := 0) ?_
  refine wk_assign rfl rfl ?_
  refine wk_nil ?_
  refine wk_seq ?_
  refine wk_reg (id := 1) ?_
  refine wk_move rfl rfl ?_
  refine wk_call Try.call30 (vs := [.int .i64 n]) rfl rfl ((Turned_any w n z hz).mono ?_)
  rintro e w1 ⟨rfl, rfl⟩
  refine ⟨_, rfl, ?_⟩
  skip
  refine wk_call Try.call29 (vs := [.int .u64 (z : Int)]) rfl rfl ((SUvarint_any w1 z (by omega)).mono ?_)
  rintro e w2 ⟨d2, rfl, ho2, hb2⟩
  refine ⟨_, rfl, ?_⟩
  refine wk_assign rfl rfl ?_
  refine wk_nil ?_
  exact wk_ret r0 rfl rfl ⟨d2, rfl, ho2, hb2⟩
end Go.Proofs.Ythejiimocbfagaa
