/-
  More operations, one at a time: sums, shifts, conversions, new slices, appending.
-/
import Derived.Test.YtfijlaopidgdpaaEngTab
import Derived.KernelRfl
namespace Go.Proofs.Eng
open Go Go.RowKit

theorem calls_wpT {P : Program} {f : FuncId} {fn : Func} {c : Code} {args : Array Value} {w : World} {R : Ending → World → Prop} (hf : P.funcs[f]? = some fn) (hb : fn.body = some c)
    (h : wpT P (bodyPost P fn R) [.code c] { tmps := args ++ Array.replicate (fn.ntmps - args.size) undef, defers := [] } w) : Calls P f args w R :=
  calls_of_wp hf hb (wpT_one h)

theorem wpT_reg {P : Program} {Q : Exit → Act → World → Prop} {k : List TD} {a : Act} {w : World} {id : Nat} {l : List Oper} (h : wpT P Q (.ops l.toArray l :: k) a w) : wpT P Q (.code (.region id l.toArray false) :: k) a w :=
  wpT_region (by simpa using h)

theorem post_ret {P : Program} {fn : Func} {R : Ending → World → Prop} {a : Act} {w : World} {v : Value} (hr : (results fn a.tmps).run P w = .ok v w) (hd : a.defers = []) (hR : R (.returned v) w) : bodyPost P fn R .ret a w := ⟨hd, v, hr, hR⟩
theorem post_end {P : Program} {fn : Func} {R : Ending → World → Prop} {a : Act} {w : World} {v : Value} (hr : (results fn a.tmps).run P w = .ok v w) (hd : a.defers = []) (hR : R (.returned v) w) : bodyPost P fn R .normal a w := ⟨hd, v, hr, hR⟩

section
variable {P : Program} {ρ : Operand → Value} {w : World} {o : Oper} {x y : Operand} {t t' : TypeId}

theorem run_shr {k : IntKind} {n s : Int} {k' : IntKind} (ho : o.op = .binOp .shr t x y t') (hx : ρ x = .int k n) (hy : ρ y = .int k' s) (hs : 0 ≤ s) :
    (execOp ρ o).run P w = .ok (.value (.int k (n.fdiv (2 ^ (min s.toNat k.bits))))) w := by
  have : ¬ s < 0 := by omega
  simp [execOp, ho, hx, hy, eqGuard, binOp, Op.shift, this]
theorem run_add {k : IntKind} {n m : Int} (ho : o.op = .binOp .add t x y t') (hx : ρ x = .int k n) (hy : ρ y = .int k m) : (execOp ρ o).run P w = .ok (.value (.int k (k.wrap (n + m)))) w := by
  simp [execOp, ho, hx, hy, eqGuard, binOp, Op.intArith]
theorem run_sub {k : IntKind} {n m : Int} (ho : o.op = .binOp .sub t x y t') (hx : ρ x = .int k n) (hy : ρ y = .int k m) : (execOp ρ o).run P w = .ok (.value (.int k (k.wrap (n - m)))) w := by
  simp [execOp, ho, hx, hy, eqGuard, binOp, Op.intArith]
theorem run_mul {k : IntKind} {n m : Int} (ho : o.op = .binOp .mul t x y t') (hx : ρ x = .int k n) (hy : ρ y = .int k m) : (execOp ρ o).run P w = .ok (.value (.int k (k.wrap (n * m)))) w := by
  simp [execOp, ho, hx, hy, eqGuard, binOp, Op.intArith]
theorem run_and {k : IntKind} {n m : Int} (ho : o.op = .binOp .and t x y t') (hx : ρ x = .int k n) (hy : ρ y = .int k m) :
    (execOp ρ o).run P w = .ok (.value (.int k (k.wrap ((BitVec.ofInt k.bits n &&& BitVec.ofInt k.bits m).toNat)))) w := by
  simp [execOp, ho, hx, hy, eqGuard, binOp, Op.intBits]
theorem run_or {k : IntKind} {n m : Int} (ho : o.op = .binOp .or t x y t') (hx : ρ x = .int k n) (hy : ρ y = .int k m) :
    (execOp ρ o).run P w = .ok (.value (.int k (k.wrap ((BitVec.ofInt k.bits n ||| BitVec.ofInt k.bits m).toNat)))) w := by
  simp [execOp, ho, hx, hy, eqGuard, binOp, Op.intBits]
theorem run_strlen {s : ByteArray} (ho : o.op = .call ⟨.builtin .len, #[x], #[t]⟩) (ht : P.underlying t = some .string) (hx : ρ x = .string s) : (execOp ρ o).run P w = .ok (.value (.int .i64 s.size)) w := by
  simp [execOp, ho, hx, resolve, invoke, builtin, Builtin.len_, run_underlying ht, goInt]
theorem run_index_str {s : ByteArray} {k : IntKind} {n : Nat} (ho : o.op = .index t x y) (ht : P.underlying t = some .string) (hx : ρ x = .string s) (hy : ρ y = .int k n) (hn : n < s.size) :
    (execOp ρ o).run P w = .ok (.value (bv s[n])) w := by
  have h0 : (0 : Int) ≤ (n : Int) := Int.natCast_nonneg _
  simp [execOp, ho, hx, hy, Instr.index, run_underlying ht, asIntOf, hn, bv]
theorem run_alloc1 {e : TypeId} {i : TypeInfo} {z : Value} (ho : o.op = .alloc e) (hi : P.info? e = some i) (hz : i.zero = some z) :
    (execOp ρ o).run P w = .ok (.value (.pointer (some ⟨w.heap.size, 0, none⟩))) (w.alloc (.cells z.cells e)) := by
  simp [execOp, ho, Instr.alloc, zeroValue, typeInfo, hi, hz, newVar, newRow]
theorem run_box {e : TypeId} (ho : o.op = .box e x) : (execOp ρ o).run P w = .ok (.value (.pointer (some ⟨w.heap.size, 0, none⟩))) (w.alloc (.cells (ρ x).cells e)) := by
  simp [execOp, ho, Instr.box, newVar, newRow]
theorem run_eqlnil_ptr {e : TypeId} {A : Option Addr} (ho : o.op = .binOp .eql t x y t') (ht : P.underlying t = some (.pointer e)) (hx : ρ x = .pointer A) (hy : ρ y = .pointer none) :
    (execOp ρ o).run P w = .ok (.value (.bool A.isNone)) w := by
  have heq : ∀ d, (Op.equalIn (d + 1) t (.pointer A) (.pointer none)).run P w = .ok A.isNone w := by
    intro d; cases A <;> simp [Op.equalIn, run_underlying ht]
  simp [execOp, ho, hx, hy, eqGuard, binOp, Op.equal, Op.maxDepth, heq 9999]
end

/-! ## a new slice of bytes -/
/-- The type's facts that a slice of bytes wants. -/
structure ByteT (P : Program) (t e : Nat) : Prop where
  sl : P.underlying t = some (.slice e)
  info : ∃ i, P.info? e = some i ∧ i.zero = some (.int .u8 0) ∧ i.size = 1 ∧ i.bytes = 1

section
variable {P : Program} {ρ : Operand → Value} {w : World} {o : Oper} {t e : TypeId}
theorem run_bs1 (hB : ByteT P t e) {x0 : Operand} {v0 : Int} (ho : o.op = .buildSlice t 1 #[(0, x0)]) (h0 : ρ x0 = .int .u8 v0) :
    (execOp ρ o).run P w = .ok (.value (.slice (some ⟨w.heap.size, 0, none⟩) 1 1)) (w.alloc (.cells #[.int .u8 v0] e)) := by
  obtain ⟨i, hi, hz, hs, hb⟩ := hB.info
  simp [execOp, ho, Instr.buildSlice, run_underlying hB.sl, sizeOf, typeInfo, hi, hs, zeroValue, hz, h0, Instr.fill, Value.cells, newRow]
  kernel_rfl
theorem run_bs2 (hB : ByteT P t e) {x0 x1 : Operand} {v0 v1 : Int} (ho : o.op = .buildSlice t 2 #[(0, x0), (1, x1)]) (h0 : ρ x0 = .int .u8 v0) (h1 : ρ x1 = .int .u8 v1) :
    (execOp ρ o).run P w = .ok (.value (.slice (some ⟨w.heap.size, 0, none⟩) 2 2)) (w.alloc (.cells #[.int .u8 v0, .int .u8 v1] e)) := by
  obtain ⟨i, hi, hz, hs, hb⟩ := hB.info
  simp [execOp, ho, Instr.buildSlice, run_underlying hB.sl, sizeOf, typeInfo, hi, hs, zeroValue, hz, h0, h1, Instr.fill, Value.cells, newRow]
  kernel_rfl
theorem run_bs3 (hB : ByteT P t e) {x0 x1 x2 : Operand} {v0 v1 v2 : Int} (ho : o.op = .buildSlice t 3 #[(0, x0), (1, x1), (2, x2)]) (h0 : ρ x0 = .int .u8 v0) (h1 : ρ x1 = .int .u8 v1) (h2 : ρ x2 = .int .u8 v2) :
    (execOp ρ o).run P w = .ok (.value (.slice (some ⟨w.heap.size, 0, none⟩) 3 3)) (w.alloc (.cells #[.int .u8 v0, .int .u8 v1, .int .u8 v2] e)) := by
  obtain ⟨i, hi, hz, hs, hb⟩ := hB.info
  simp [execOp, ho, Instr.buildSlice, run_underlying hB.sl, sizeOf, typeInfo, hi, hs, zeroValue, hz, h0, h1, h2, Instr.fill, Value.cells, newRow]
  kernel_rfl
theorem run_bs4 (hB : ByteT P t e) {x0 x1 x2 x3 : Operand} {v0 v1 v2 v3 : Int} (ho : o.op = .buildSlice t 4 #[(0, x0), (1, x1), (2, x2), (3, x3)]) (h0 : ρ x0 = .int .u8 v0) (h1 : ρ x1 = .int .u8 v1) (h2 : ρ x2 = .int .u8 v2) (h3 : ρ x3 = .int .u8 v3) :
    (execOp ρ o).run P w = .ok (.value (.slice (some ⟨w.heap.size, 0, none⟩) 4 4)) (w.alloc (.cells #[.int .u8 v0, .int .u8 v1, .int .u8 v2, .int .u8 v3] e)) := by
  obtain ⟨i, hi, hz, hs, hb⟩ := hB.info
  simp [execOp, ho, Instr.buildSlice, run_underlying hB.sl, sizeOf, typeInfo, hi, hs, zeroValue, hz, h0, h1, h2, h3, Instr.fill, Value.cells, newRow]
  kernel_rfl
theorem run_bs5 (hB : ByteT P t e) {x0 x1 x2 x3 x4 : Operand} {v0 v1 v2 v3 v4 : Int} (ho : o.op = .buildSlice t 5 #[(0, x0), (1, x1), (2, x2), (3, x3), (4, x4)]) (h0 : ρ x0 = .int .u8 v0) (h1 : ρ x1 = .int .u8 v1) (h2 : ρ x2 = .int .u8 v2) (h3 : ρ x3 = .int .u8 v3) (h4 : ρ x4 = .int .u8 v4) :
    (execOp ρ o).run P w = .ok (.value (.slice (some ⟨w.heap.size, 0, none⟩) 5 5)) (w.alloc (.cells #[.int .u8 v0, .int .u8 v1, .int .u8 v2, .int .u8 v3, .int .u8 v4] e)) := by
  obtain ⟨i, hi, hz, hs, hb⟩ := hB.info
  simp [execOp, ho, Instr.buildSlice, run_underlying hB.sl, sizeOf, typeInfo, hi, hs, zeroValue, hz, h0, h1, h2, h3, h4, Instr.fill, Value.cells, newRow]
  kernel_rfl
theorem run_bs8 (hB : ByteT P t e) {x0 x1 x2 x3 x4 x5 x6 x7 : Operand} {v0 v1 v2 v3 v4 v5 v6 v7 : Int} (ho : o.op = .buildSlice t 8 #[(0, x0), (1, x1), (2, x2), (3, x3), (4, x4), (5, x5), (6, x6), (7, x7)]) (h0 : ρ x0 = .int .u8 v0) (h1 : ρ x1 = .int .u8 v1) (h2 : ρ x2 = .int .u8 v2) (h3 : ρ x3 = .int .u8 v3) (h4 : ρ x4 = .int .u8 v4) (h5 : ρ x5 = .int .u8 v5) (h6 : ρ x6 = .int .u8 v6) (h7 : ρ x7 = .int .u8 v7) :
    (execOp ρ o).run P w = .ok (.value (.slice (some ⟨w.heap.size, 0, none⟩) 8 8)) (w.alloc (.cells #[.int .u8 v0, .int .u8 v1, .int .u8 v2, .int .u8 v3, .int .u8 v4, .int .u8 v5, .int .u8 v6, .int .u8 v7] e)) := by
  obtain ⟨i, hi, hz, hs, hb⟩ := hB.info
  simp [execOp, ho, Instr.buildSlice, run_underlying hB.sl, sizeOf, typeInfo, hi, hs, zeroValue, hz, h0, h1, h2, h3, h4, h5, h6, h7, Instr.fill, Value.cells, newRow]
  kernel_rfl

theorem run_bs0 (hB : ByteT P t e) (ho : o.op = .buildSlice t 0 #[]) : (execOp ρ o).run P w = .ok (.value (.slice (some ⟨w.heap.size, 0, none⟩) 0 0)) (w.alloc (.cells #[] e)) := by
  obtain ⟨i, hi, hz, hs, hb⟩ := hB.info
  simp [execOp, ho, Instr.buildSlice, run_underlying hB.sl, sizeOf, typeInfo, hi, Instr.fill, newRow]
  kernel_rfl
end

/-! ## appending -/
section
variable {P : Program} {ρ : Operand → Value} {w : World} {o : Oper} {t e : TypeId} {x y : Operand}

/-- Append of the cells that lie at an address. -/
theorem run_append_cells (hB : ByteT P t e) {base : Nat} {d : Value} {bs xs : List UInt8} (ho : o.op = .call ⟨.builtin .append, #[x, y], #[t, t]⟩) (hx : ρ x = d) {a : Addr} {c : Nat} (hy : ρ y = .slice (some a) xs.length c)
    (hown : Own w base e d bs) (hc : ∀ (i : Nat) (b : UInt8), xs[i]? = some b → w.cell? (a.add i) = some (bv b)) (hb : base ≤ w.heap.size) (hl : bs.length + xs.length ≤ lim) :
    ∃ d' w', (execOp ρ o).run P w = .ok (.value d') w' ∧ Own w' base e d' (bs ++ xs) ∧ w.grownBy w' d.ownBlock := by
  obtain ⟨i, hi, hz, hs, hby⟩ := hB.info
  rw [lim_eq] at hl
  obtain ⟨d', w', h1, h2, h3, _⟩ := run_append_own (P := P) w base t o.type e i (.int .u8 0) 1 1 hB.sl hi hz hs hby rfl (by omega) d bs.length (bs.map bv) hown a xs.length c (xs.map bv) (by simp)
    (by intro j u hu
        rw [List.getElem?_map, Option.map_eq_some_iff] at hu
        obtain ⟨b, hb1, rfl⟩ := hu
        exact hc j b hb1)
    (by intro u hu
        obtain ⟨b, _, rfl⟩ := List.mem_map.1 hu
        rfl) (by unfold maxLen; omega) (by omega) hb
  refine ⟨d', w', ?_, ?_, h3⟩
  · simp [execOp, ho, resolve, invoke, builtin, hx, hy, h1]
  · unfold Own
    rw [List.length_append, List.map_append]
    exact h2

/-- Append of a nil slice. -/
theorem run_append_nothing (hB : ByteT P t e) {base : Nat} {d : Value} {bs : List UInt8} (ho : o.op = .call ⟨.builtin .append, #[x, y], #[t, t]⟩) (hx : ρ x = d) {c : Nat} (hy : ρ y = .slice none 0 c)
    (hown : Own w base e d bs) : (execOp ρ o).run P w = .ok (.value d) w := by
  obtain ⟨i, hi, hz, hs, hby⟩ := hB.info
  rcases hown.2 with ⟨h1, h2⟩ | ⟨g, cap, cur, h1, _, _, hnc, _⟩
  · simp [execOp, ho, resolve, invoke, builtin, hx, hy, h1, Builtin.append_, run_underlying hB.sl, sizeOf, typeInfo, hi, Builtin.lenOf, Builtin.firstCells]
  · simp [execOp, ho, resolve, invoke, builtin, hx, hy, h1, Builtin.append_, run_underlying hB.sl, sizeOf, typeInfo, hi, Builtin.lenOf, Builtin.firstCells, hnc, storeCells]

/-- Append of bytes that are read somewhere, or of nothing. -/
theorem run_append_rep (hB : ByteT P t e) {base : Nat} {X : Nat → Prop} {d v : Value} {bs xs : List UInt8} (ho : o.op = .call ⟨.builtin .append, #[x, y], #[t, t]⟩) (hx : ρ x = d) (hy : ρ y = v) (hv : BytesRep0 w X v xs)
    (hown : Own w base e d bs) (hb : base ≤ w.heap.size) (hl : bs.length + xs.length ≤ lim) :
    ∃ d' w', (execOp ρ o).run P w = .ok (.value d') w' ∧ Own w' base e d' (bs ++ xs) ∧ w.grownBy w' d.ownBlock := by
  rcases hv with ⟨rfl, rfl⟩ | ⟨b, oo, n, c, rfl, _, _, hlen, _, hcell⟩
  · exact ⟨d, w, run_append_nothing hB ho hx hy hown, by simpa using hown, World.grownBy.refl w _⟩
  · subst hlen
    exact run_append_cells hB ho hx hy hown (fun i u hu => by rw [add_addr]; exact hcell i u hu) hb hl

/-- The cells of a block of bytes that is known whole. -/
theorem cells_of_block {b : Nat} {xs : List UInt8} {cur : Array Value} (h : w.heap[b]? = some (.cells cur e (0, 0))) (hc : cur.toList = xs.map bv) :
    ∀ (i : Nat) (u : UInt8), xs[i]? = some u → w.cell? ((⟨b, 0, none⟩ : Addr).add i) = some (bv u) := by
  intro i u hu
  rw [add_addr, cell_of_row w b (0 + i) cur e (0, 0) h, Nat.zero_add, ← Array.getElem?_toList, hc, List.getElem?_map, hu]
  rfl
end

/-! ## the law of a row of literal bytes that is appended -/
theorem cons_eq {α : Type} {a b : α} {l m : List α} (h : a = b) (h' : l = m) : a :: l = b :: m := by rw [h, h']
theorem wrap_u8 (n : Int) : IntKind.u8.wrap n = n % 256 := by simp [IntKind.wrap, IntKind.bits, IntKind.signed]
theorem bv_wrap (n : Int) : Value.int .u8 (IntKind.u8.wrap n) = bv (UInt8.ofNat (n % 256).toNat) := by
  have h0 := Int.emod_nonneg n (show (256 : Int) ≠ 0 by omega)
  have h1 := Int.emod_lt_of_pos n (show (0 : Int) < 256 by omega)
  rw [wrap_u8]
  simp only [bv, UInt8.toNat_ofNat']
  congr 1
  omega
end Go.Proofs.Eng
