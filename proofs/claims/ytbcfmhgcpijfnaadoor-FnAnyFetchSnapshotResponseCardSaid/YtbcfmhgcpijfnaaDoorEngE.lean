/-
  More operations by hand: least and greatest, a part of a slice, what a struct of zeros is, a whole value into a new block.
-/
import Derived.Test.YtbcfmhgcpijfnaaDoorEngD
import Derived.Deep.WholeRow
import Derived.Deep.MidRow
import Derived.Deep.OwnRows
import Derived.Great.BuildSlice
import Derived.Laws.IdiomCopy
import Derived.Laws.CopyRow
set_option linter.unusedVariables false
set_option linter.unusedSimpArgs false
namespace Go.Proofs.Eng
open Go Go.RowKit
attribute [local semireducible] wk wkD

section
variable {P : Program} {ρ : Operand → Value} {w : World} {o : Oper} {x y : Operand} {t t' : TypeId}
theorem run_min {k k' : IntKind} {n m : Int} {ts : Array TypeId} (ho : o.op = .call ⟨.builtin .min, #[x, y], ts⟩) (hx : ρ x = .int k n) (hy : ρ y = .int k' m) : (execOp ρ o).run P w = .ok (.value (.int k (if m < n then m else n))) w := by
  simp [execOp, ho, hx, hy, resolve, invoke, builtin, Builtin.min_, Builtin.min2]
theorem run_max {k k' : IntKind} {n m : Int} {ts : Array TypeId} (ho : o.op = .call ⟨.builtin .max, #[x, y], ts⟩) (hx : ρ x = .int k n) (hy : ρ y = .int k' m) : (execOp ρ o).run P w = .ok (.value (.int k (if m > n then m else n))) w := by
  simp [execOp, ho, hx, hy, resolve, invoke, builtin, Builtin.max_, Builtin.max2]
theorem run_sliceH {A : Option Addr} {n c m : Nat} {k : IntKind} {e : TypeId} {i : TypeInfo} (ho : o.op = .slice t x none (some y) none) (ht : P.underlying t = some (.slice e)) (hi : P.info? e = some i) (hx : ρ x = .slice A n c) (hy : ρ y = .int k (m : Int)) (hm : m ≤ c)
    : (execOp ρ o).run P w = .ok (.value (.slice A m c)) w := by
  have h2 : A.map (fun a => a.add 0) = A := by
    cases A with
    | none => rfl
    | some a => simp [Addr.add]
  have h3 : (0 : Int) ≤ (m : Int) := Int.natCast_nonneg _
  have h4 : (m : Int) ≤ (c : Int) := by omega
  simp [execOp, ho, hx, hy, Instr.sliceAt, Instr.slice, run_underlying ht, Instr.sliceBounds, Instr.sliceBound, asIntOf, hm, sizeOf, typeInfo, hi, h2]
theorem run_store_new {c c' : Array Value} {w0 : World} {i : TypeInfo} (ho : o.op = .store t x y) (hx : ρ x = .pointer (some ⟨w0.heap.size, 0, none⟩)) (hy : ρ y = .agg c') (hi : P.info? t = some i) (hn : i.size = c'.size) (hc : c.size = c'.size) (h1 : c'.all (·.oneCell') = true) :
    (execOp ρ o).run P (w0.alloc (.cells c t)) = .ok .skip (w0.alloc (.cells c' t)) := by
  have := run_storeAt_new (P := P) w0 t c c' (by simp [hi, hn]) hc h1
  simp [execOp, ho, hx, hy, this]
theorem run_store_mid {b oo : Nat} {cs : Array Value} {i : TypeInfo} (ho : o.op = .store t x y) (hx : ρ x = .pointer (some ⟨b, oo, none⟩)) (hy : ρ y = .agg cs) (hi : P.info? t = some i) (hn : i.size = cs.size) (ht : w.there b oo cs.size) (h1 : cs.all (·.oneCell') = true) :
    (execOp ρ o).run P w = .ok .skip (w.setCells b oo cs.toList) := by
  have := run_storeAt_mid (P := P) w b oo t cs ht (by simp [hi, hn]) h1
  simp [execOp, ho, hx, hy, this]
theorem run_build0 {cells : Array Value} (ho : o.op = .build t #[]) (hb : P.built t [] = some cells) : (execOp ρ o).run P w = .ok (.value (.agg cells)) w := by
  have := run_build (P := P) w t #[] cells hb
  simp [execOp, ho, this]
end

theorem run_make16 {P : Program} {ρ : Operand → Value} {w : World} {o : Oper} {x y : Operand} {t e : TypeId} (hB : ByteT P t e) (ho : o.op = .makeSlice t x y) (hx : ρ x = .int .i64 16) (hy : ρ y = .int .i64 16) :
    (execOp ρ o).run P w = .ok (.value (.slice (some ⟨w.heap.size, 0, none⟩) 16 16)) (w.alloc (.cells (madeCells #[.int .u8 0] 16) e)) := by
  obtain ⟨i, hi, hz, hs, hb⟩ := hB.info
  have := run_make_row' (P := P) t e (.int .u8 0) 1 hB.sl (by simp [hi, hz, hs, hb]) rfl .i64 .i64 16 (by omega) (by omega) w
  simp only [execOp, ho, hx, hy]
  rw [show (16 : Int) = ((16 : Nat) : Int) from rfl, Sem.run_bind, this]
  rfl
theorem run_copy16 {P : Program} {ρ : Operand → Value} {w : World} {o : Oper} {x y : Operand} {t e : TypeId} (hB : ByteT P t e) {X : Nat → Prop} {v : Value} {bs : List UInt8} (ho : o.op = .call ⟨.builtin .copy, #[x, y], #[t, t]⟩) (hx : ρ x = .slice (some ⟨w.heap.size, 0, none⟩) 16 16) (hy : ρ y = v)
    (hv : BytesRep0 (w.alloc (.cells (madeCells #[.int .u8 0] 16) e)) X v bs) :
    ∃ u, (execOp ρ o).run P (w.alloc (.cells (madeCells #[.int .u8 0] 16) e)) = .ok (.value u) (w.alloc (.cells ((sUuid bs).map bv).toArray e)) := by
  obtain ⟨i, hi, hz, hs, hb⟩ := hB.info
  have hz0 : (madeCells #[.int .u8 0] 16).toList = List.replicate 16 (.int .u8 0) := by kernel_rfl
  rcases hv with ⟨⟨A0, rfl⟩, rfl⟩ | ⟨b, oo, n, c, rfl, _, _, hlen, _, hcell⟩
  · refine ⟨goInt 0, ?_⟩
    have h0 : madeCells #[.int .u8 0] 16 = ((sUuid []).map bv).toArray := by kernel_rfl
    rw [← h0]
    cases A0 <;> simp [execOp, ho, resolve, invoke, builtin, hx, hy, Builtin.copy_, run_underlying hB.sl, Builtin.lenOf, Builtin.firstCells, sizeOf, typeInfo, hi, storeCells, loadCells, loadCellsFrom]
  · subst hlen
    have := run_copy_row (P := P) (w.alloc (.cells (madeCells #[.int .u8 0] 16) e)) t t o.type e w.heap.size 0 16 16 ⟨b, oo, none⟩ bs.length c (madeCells #[.int .u8 0] 16) e ((bs.take 16).map bv) hB.sl (by simp [hi, hs])
      (heap_alloc_last w _) (by simp [Nat.min_def]; split <;> split <;> omega) (by
        intro j u hu
        rw [List.getElem?_map, Option.map_eq_some_iff] at hu
        obtain ⟨z, hz1, rfl⟩ := hu
        rw [List.getElem?_take] at hz1
        split at hz1
        · rw [add_addr]; exact hcell j z hz1
        · cases hz1) (by rw [← Array.length_toList, hz0]; simp; omega) (by
        intro u hu
        obtain ⟨z, _, rfl⟩ := List.mem_map.1 hu
        rfl)
    refine ⟨goInt ((bs.take 16).map bv).length, ?_⟩
    simp only [execOp, ho, resolve, invoke, builtin, List.map_toArray, List.map_cons, List.map_nil, hx, hy, Sem.run_bind, Sem.run_pure, Result.andThen_ok, this]
    congr 1
    rw [World.setRow_alloc_new]
    congr 3
    rw [hz0, sUuid, List.take_zero, List.nil_append, List.map_append, Nat.zero_add, List.length_map, List.length_take, List.drop_replicate, List.map_replicate]
    rw [show 16 - min 16 bs.length = 16 - bs.length from by omega]
    rfl
section
variable {P : Program} {Q : Exit → Act → World → Prop} {nT : Nat} {σ : Sv} {k : List TD} {w : World} {all : Array Oper} {l : List Oper} {ty : TypeId} {ps : String} {af : Array Edge} {d : Nat} {x y z : Operand} {t t' : TypeId}
theorem wk_min {kk k' : IntKind} {n m : Int} {ts : Array TypeId} (hx : evs σ x = some (.int kk n)) (hy : evs σ y = some (.int k' m)) (hd : Nat.blt d nT = true) (h : wk P Q nT ((d, .int kk (if m < n then m else n)) :: σ) (.ops all l :: k) w) :
    wk P Q nT σ (.ops all (⟨some d, .call ⟨.builtin .min, #[x, y], ts⟩, ty, ps, af, none⟩ :: l) :: k) w := wk_val (fun _ ha => run_min rfl (ha.ev hx) (ha.ev hy)) hd h
theorem wk_max {kk k' : IntKind} {n m : Int} {ts : Array TypeId} (hx : evs σ x = some (.int kk n)) (hy : evs σ y = some (.int k' m)) (hd : Nat.blt d nT = true) (h : wk P Q nT ((d, .int kk (if m > n then m else n)) :: σ) (.ops all l :: k) w) :
    wk P Q nT σ (.ops all (⟨some d, .call ⟨.builtin .max, #[x, y], ts⟩, ty, ps, af, none⟩ :: l) :: k) w := wk_val (fun _ ha => run_max rfl (ha.ev hx) (ha.ev hy)) hd h
theorem wk_sliceH {A : Option Addr} {n c m : Nat} {kk : IntKind} {e : TypeId} {i : TypeInfo} (hx : evs σ x = some (.slice A n c)) (hy : evs σ y = some (.int kk (m : Int))) (ht : P.underlying t = some (.slice e)) (hi : P.info? e = some i) (hm : m ≤ c)
    (hd : Nat.blt d nT = true) (h : wk P Q nT ((d, .slice A m c) :: σ) (.ops all l :: k) w) :
    wk P Q nT σ (.ops all (⟨some d, .slice t x none (some y) none, ty, ps, af, none⟩ :: l) :: k) w := wk_val (fun _ ha => run_sliceH rfl ht hi (ha.ev hx) (ha.ev hy) hm) hd h
theorem wk_storeNew {c c' : Array Value} {w0 : World} {i : TypeInfo} (hx : evs σ x = some (.pointer (some ⟨w0.heap.size, 0, none⟩))) (hy : evs σ y = some (.agg c')) (hi : P.info? t = some i) (hn : i.size = c'.size) (hc : c.size = c'.size) (h1 : c'.all (·.oneCell') = true)
    (h : wk P Q nT σ (.ops all l :: k) (w0.alloc (.cells c' t))) : wk P Q nT σ (.ops all (⟨none, .store t x y, ty, ps, af, none⟩ :: l) :: k) (w0.alloc (.cells c t)) :=
  wk_unit (fun _ ha => run_store_new rfl (ha.ev hx) (ha.ev hy) hi hn hc h1) h
theorem wk_storeMid {b oo : Nat} {cs : Array Value} {i : TypeInfo} (hx : evs σ x = some (.pointer (some ⟨b, oo, none⟩))) (hy : evs σ y = some (.agg cs)) (hi : P.info? t = some i) (hn : i.size = cs.size) (ht : w.there b oo cs.size) (h1 : cs.all (·.oneCell') = true)
    (h : wk P Q nT σ (.ops all l :: k) (w.setCells b oo cs.toList)) : wk P Q nT σ (.ops all (⟨none, .store t x y, ty, ps, af, none⟩ :: l) :: k) w :=
  wk_unit (fun _ ha => run_store_mid rfl (ha.ev hx) (ha.ev hy) hi hn ht h1) h
theorem wk_build0 {cells : Array Value} (hb : P.built t [] = some cells) (hd : Nat.blt d nT = true) (h : wk P Q nT ((d, .agg cells) :: σ) (.ops all l :: k) w) : wk P Q nT σ (.ops all (⟨some d, .build t #[], ty, ps, af, none⟩ :: l) :: k) w :=
  wk_val (fun _ _ => run_build0 rfl hb) hd h
theorem wk_make16 {e : TypeId} (hB : ByteT P t e) (hx : evs σ x = some (.int .i64 16)) (hy : evs σ y = some (.int .i64 16)) (hd : Nat.blt d nT = true) (h : wk P Q nT ((d, .slice (some ⟨w.heap.size, 0, none⟩) 16 16) :: σ) (.ops all l :: k) (w.alloc (.cells (madeCells #[.int .u8 0] 16) e))) :
    wk P Q nT σ (.ops all (⟨some d, .makeSlice t x y, ty, ps, af, none⟩ :: l) :: k) w := wk_val (fun _ ha => run_make16 hB rfl (ha.ev hx) (ha.ev hy)) hd h
theorem wk_copy16 {e : TypeId} (hB : ByteT P t e) {X : Nat → Prop} {v : Value} {bs : List UInt8} (hx : evs σ x = some (.slice (some ⟨w.heap.size, 0, none⟩) 16 16)) (hy : evs σ y = some v) (hv : BytesRep0 (w.alloc (.cells (madeCells #[.int .u8 0] 16) e)) X v bs) (hd : Nat.blt d nT = true)
    (h : ∀ u, wk P Q nT ((d, u) :: σ) (.ops all l :: k) (w.alloc (.cells ((sUuid bs).map bv).toArray e))) :
    wk P Q nT σ (.ops all (⟨some d, .call ⟨.builtin .copy, #[x, y], #[t, t]⟩, ty, ps, af, none⟩ :: l) :: k) (w.alloc (.cells (madeCells #[.int .u8 0] 16) e)) := by
  intro a ha
  obtain ⟨u, hr⟩ := run_copy16 (o := ⟨some d, .call ⟨.builtin .copy, #[x, y], #[t, t]⟩, ty, ps, af, none⟩) hB rfl (ha.ev hx) (ha.ev hy) hv
  exact wpT_value rfl hr (h u _ (ha.put hd u))
/-- A cell's address in a slice of structs. -/
theorem wk_loadVals {ad : Addr} {vs : List Value} {dd : TypeDesc} {i : TypeInfo} (hx : evs σ x = some (.pointer (some ad))) (hs : P.underlying t = some dd) (ha : aggB dd = true) (hi : P.info? t = some i) (hn : i.size = vs.length)
    (hv : ∀ j v, vs[j]? = some v → w.cell? (ad.add j) = some v) (hd : Nat.blt d nT = true) (h : wk P Q nT ((d, .agg vs.toArray) :: σ) (.ops all l :: k) w) : wk P Q nT σ (.ops all (⟨some d, .load t x, ty, ps, af, none⟩ :: l) :: k) w := wk_loadA hx hs ha hi hn hv hd h
end
attribute [local irreducible] wk wkD

theorem cell_heap {w w1 : World} {a : Addr} {v : Value} (h : w1.heap = w.heap) (hc : w.cell? a = some v) : w1.cell? a = some v := (World.cell?_of_block (by rw [h])).trans hc
/-- A slice that has just been laid is one's own. -/
theorem own_new {w : World} {e : TypeId} {cur : Array Value} {bs : List UInt8} {n : Nat} (hn : bs.length = n) (hc : cur.toList = bs.map bv) (hl : bs.length ≤ lim) : Own (w.alloc (.cells cur e)) w.heap.size e (.slice (some ⟨w.heap.size, 0, none⟩) n n) bs := by
  subst hn
  rw [lim_eq] at hl
  have hs : cur.size = bs.length := by rw [← Array.length_toList, hc, List.length_map]
  refine ⟨by simp, .inr ⟨w.heap.size, bs.length, cur, rfl, Nat.le_refl _, heap_alloc_last w _, Nat.le_refl _, by unfold maxLen; omega, by omega, ?_⟩⟩
  rw [hc, List.take_of_length_le (by simp)]
/-- A cell of a slice of bytes. -/
theorem BytesRep0.at {w : World} {X : Nat → Prop} {v : Value} {bs : List UInt8} (h : BytesRep0 w X v bs) {i : Nat} (hi : i < bs.length) : ∃ b o c, v = .slice (some ⟨b, o, none⟩) bs.length c ∧ ¬ X b ∧ b < w.heap.size ∧ w.cell? ⟨b, o + i, none⟩ = some (bv bs[i]) := by
  rcases h with ⟨_, rfl⟩ | ⟨b, o, n, c, rfl, hx, hb, hl, hc, hcell⟩
  · simp at hi
  · subst hl
    exact ⟨b, o, c, rfl, hx, hb, hcell i _ (List.getElem?_eq_getElem hi)⟩
theorem BytesRep0.form {w : World} {X : Nat → Prop} {v : Value} {bs : List UInt8} (h : BytesRep0 w X v bs) : ∃ A c, v = .slice A bs.length c ∧ bs.length ≤ c := by
  rcases h with ⟨⟨A0, rfl⟩, rfl⟩ | ⟨b, o, n, c, rfl, hx, hb, hl, hc, hcell⟩
  · exact ⟨A0, 0, rfl, Nat.le_refl _⟩
  · subst hl
    exact ⟨_, c, rfl, hc⟩
/-- Append onto a slice that lies in given blocks. -/
theorem app_inB {P : Program} {t e : TypeId} (hB : ByteT P t e) {w : World} {X Y : Nat → Prop} {base : Nat} {d v : Value} {bs xs : List UInt8} (hX : ∀ b, w.heap.size ≤ b → X b) (hXb : ∀ b, X b → base ≤ b) (hb : base ≤ w.heap.size) (hv : BytesRep0 w Y v xs) (hown : OwnB w X e d bs) (hl : bs.length + xs.length ≤ lim)
    {x y : Operand} (ρ : Operand → Value) (o : Oper) (ho : o.op = .call ⟨.builtin .append, #[x, y], #[t, t]⟩) (hx : ρ x = d) (hy : ρ y = v) :
    ∃ d' w', (execOp ρ o).run P w = .ok (.value d') w' ∧ OwnB w' X e d' (bs ++ xs) ∧ Keeps X w w' ∧ Below base w w' := by
  obtain ⟨d', w', h1, h2, h3⟩ := app_in hB hX hv hown hl ρ o ho hx hy
  exact ⟨d', w', h1, h2, keeps_grown hown h3, (Below.refl base w).grown h3 hb (fun k hk => hXb k (hown.2 k hk))⟩
theorem wk_appendR {P : Program} {Q : Exit → Act → World → Prop} {nT : Nat} {σ : Sv} {k : List TD} {w : World} {all : Array Oper} {l : List Oper} {ty : TypeId} {ps : String} {af : Array Edge} {d : Nat} {x y : Operand} {t t' : TypeId} {u v : Value} {R : Value → World → Prop}
    (hx : evs σ x = some u) (hy : evs σ y = some v) (hr : ∀ (ρ : Operand → Value) (o : Oper), o.op = .call ⟨.builtin .append, #[x, y], #[t, t']⟩ → ρ x = u → ρ y = v → ∃ d' w', (execOp ρ o).run P w = .ok (.value d') w' ∧ R d' w')
    (hd : Nat.blt d nT = true) (h : ∀ d' w', R d' w' → wk P Q nT ((d, d') :: σ) (.ops all l :: k) w') :
    wk P Q nT σ (.ops all (⟨some d, .call ⟨.builtin .append, #[x, y], #[t, t']⟩, ty, ps, af, none⟩ :: l) :: k) w := by
  unfold wk at *
  intro a ha
  obtain ⟨d', w', h1, h2⟩ := hr a.eval ⟨some d, .call ⟨.builtin .append, #[x, y], #[t, t']⟩, ty, ps, af, none⟩ rfl (ha.ev hx) (ha.ev hy)
  exact wpT_value rfl h1 (h d' w' h2 _ (ha.put hd d'))
/-- A cell of a block that stands at the end. -/
theorem cell_new {w : World} {c : Array Value} {t : TypeId} {j : Nat} {v : Value} (h : c.toList[j]? = some v) : (w.alloc (.cells c t)).cell? ⟨w.heap.size, j, none⟩ = some v := by
  rw [cell_of_row _ _ j c t (0, 0) (heap_alloc_last w _), ← Array.getElem?_toList, h]
theorem cell_blk {w : World} {b : Nat} {c : Array Value} {t : TypeId} {z : Nat × Nat} {j : Nat} {v : Value} (hb : w.heap[b]? = some (.cells c t z)) (h : c.toList[j]? = some v) : w.cell? ⟨b, j, none⟩ = some v := by
  rw [cell_of_row _ _ j c t z hb, ← Array.getElem?_toList, h]
theorem cells_blk {w : World} {b : Nat} {c : Array Value} {t : TypeId} {z : Nat × Nat} (hb : w.heap[b]? = some (.cells c t z)) : ∀ j v, c.toList[j]? = some v → w.cell? ((⟨b, 0, none⟩ : Addr).add j) = some v := by
  intro j v h
  rw [add_addr, Nat.zero_add]
  exact cell_blk hb h
theorem cells_new {w : World} {c : Array Value} {t : TypeId} : ∀ j v, c.toList[j]? = some v → (w.alloc (.cells c t)).cell? ((⟨w.heap.size, 0, none⟩ : Addr).add j) = some v := cells_blk (heap_alloc_last w _)
theorem heap_prev {w : World} {o o' : Obj} : ((w.alloc o).alloc o').heap[w.heap.size]? = some o := by
  rw [Below.heap_alloc _ _ _ (by simp), heap_alloc_last]
theorem cell_new2 {w : World} {c : Array Value} {t : TypeId} {o : Obj} {j : Nat} {v : Value} (h : c.toList[j]? = some v) : ((w.alloc (.cells c t)).alloc o).cell? ⟨w.heap.size, j, none⟩ = some v := cell_blk heap_prev h
theorem cells_new2 {w : World} {c : Array Value} {t : TypeId} {o : Obj} : ∀ j v, c.toList[j]? = some v → ((w.alloc (.cells c t)).alloc o).cell? ((⟨w.heap.size, 0, none⟩ : Addr).add j) = some v := cells_blk heap_prev
theorem below1 (w : World) (o : Obj) : Below w.heap.size w (w.alloc o) := (Below.refl _ w).alloc (Nat.le_refl _) o
theorem below2 (w : World) (o o' : Obj) : Below w.heap.size w ((w.alloc o).alloc o') := (below1 w o).trans ((Below.refl _ _).alloc (by simp) o')
theorem below3 (w : World) (o o' o'' : Obj) : Below w.heap.size w (((w.alloc o).alloc o').alloc o'') := (below2 w o o').trans ((Below.refl _ _).alloc (by simp; omega) o'')
theorem keeps_below {w w' : World} {X : Nat → Prop} {B : Nat} (h : Below B w w') (hB : w.heap.size ≤ B) : Keeps X w w' := ⟨h.size, fun b hb _ => h.block b (by omega)⟩
abbrev fldV (f : Fld) (sv : Value) : List Value := [.int .i64 f.kind, .int .i64 f.from_, .int .i64 f.to, .int .i64 f.null, .int .i64 f.tag, .int .i64 f.dflt, .int .i64 f.of, sv]
theorem loadVar_cells {P : Program} {w : World} {t : TypeId} {ad : Addr} {vs : List Value} {d : TypeDesc} {i : TypeInfo} (hs : P.underlying t = some d) (hd : aggB d = true) (hi : P.info? t = some i) (hn : i.size = vs.length) (hv : ∀ j v, vs[j]? = some v → w.cell? (ad.add j) = some v) :
    (loadVar t ad).run P w = .ok (.agg vs.toArray) w := by
  have hag : (isAgg t).run P w = .ok true w := by
    simp only [isAgg, Sem.run_bind, run_underlying hs, Result.andThen_ok]
    cases d <;> simp_all [aggB]
  simp only [loadVar, Sem.run_bind, Sem.run_pure, Result.andThen_ok, hag, if_true, sizeOf, typeInfo, run_program, hi, hn, run_loadCells_list (P := P) w ad vs hv]
theorem BytesRep0.one {w : World} {X : Nat → Prop} {v : Value} {bs : List UInt8} (h : BytesRep0 w X v bs) : v.oneCell' = true := by
  rcases h with ⟨⟨A0, rfl⟩, _⟩ | ⟨b, o, n, c, rfl, _⟩ <;> rfl
theorem Lies.one {w : World} {X : Nat → Prop} {v : Value} {n sz : Nat} {cells : Nat → List Value} (h : Lies w X v n sz cells) : v.oneCell' = true := by
  obtain ⟨A, c, rfl, _⟩ := h; rfl
theorem TRep.facts {w : World} {X : Nat → Prop} {vs : List Value} {t : Tree} (h : TRep w X vs t) : vs.length = 5 ∧ vs.toArray.all (·.oneCell') = true := by
  cases h with
  | mk N S nl L U sv lv uv' cells hN hS hL hU hr =>
    refine ⟨rfl, ?_⟩
    obtain ⟨vals, hU, _⟩ := hU
    simp [hS.one, hL.one, hU.one]
    exact ⟨rfl, rfl⟩
theorem fldv_one {f : Fld} {v : Value} : ([.int .i64 f.kind, .int .i64 f.from_, .int .i64 f.to, .int .i64 f.null, .int .i64 f.tag, .int .i64 f.dflt, .int .i64 f.of, v] : List Value).length = 8 := rfl
theorem fldV_one {f : Fld} {sv : Value} (h : sv.oneCell' = true) : (fldV f sv).toArray.all (·.oneCell') = true := by
  simp [h]
  exact ⟨rfl, rfl, rfl, rfl, rfl, rfl, rfl⟩
/-- The fields of the reference that a list of them may have. -/
def TagsOk : List Fld → Prop
  | [] => True
  | f :: r => f.tag < 2147483648 ∧ TagsOk r
theorem TagsOk.at {fs : List Fld} (h : TagsOk fs) {i : Nat} {f : Fld} (hi : fs[i]? = some f) : f.tag < 2147483648 := by
  induction fs generalizing i with
  | nil => simp at hi
  | cons g r ih => cases i with
    | zero => simp at hi; subst hi; exact h.1
    | succ i => exact ih h.2 (by simpa using hi)
/-- A field of a slice of them. -/
theorem FRep.at {w : World} {X : Nat → Prop} {v : Value} {fs : List Fld} (h : FRep w X v fs) {i : Nat} (hi : i < fs.length) : ∃ b c sv, v = .slice (some ⟨b, 0, none⟩) fs.length c ∧ b < w.heap.size ∧ FRep w X sv fs[i].sub ∧
    ∀ j u, (fldV fs[i] sv)[j]? = some u → w.cell? ((⟨b, 0 + i * 8, none⟩ : Addr).add j) = some u := by
  cases h with
  | nil => simp at hi
  | arr b n cap t cur _ hb h hl subs hs hr =>
    subst hl
    have hf : fs[i]? = some fs[i] := List.getElem?_eq_getElem hi
    refine ⟨b, cap, subs i, rfl, lt_of_some h, hr i _ hf, fun j u hj => ?_⟩
    have h1 := hs i _ hf
    have hj8 : j < 8 := (List.getElem?_eq_some_iff.1 hj).1
    have h2 : ((cur.toList.drop (i * 8)).take 8)[j]? = some u := by rw [h1]; exact hj
    rw [List.getElem?_take, if_pos hj8, List.getElem?_drop] at h2
    rw [add_addr, Nat.zero_add, cell_of_row w b (i * 8 + j) cur t (0, 0) h, ← Array.getElem?_toList, h2]
theorem FRep.form {w : World} {X : Nat → Prop} {v : Value} {fs : List Fld} (h : FRep w X v fs) : ∃ A c, v = .slice A fs.length c := by
  cases h with
  | nil => exact ⟨none, 0, rfl⟩
  | arr b n cap t cur _ hb h hl subs hs hr => subst hl; exact ⟨_, cap, rfl⟩
theorem FRep.one {w : World} {X : Nat → Prop} {v : Value} {fs : List Fld} (h : FRep w X v fs) : v.oneCell' = true := by
  obtain ⟨A, c, rfl⟩ := h.form; rfl

theorem Lies.mono {w : World} {X Y : Nat → Prop} {v : Value} {n sz : Nat} {cells : Nat → List Value} (h : Lies w X v n sz cells) (hy : ∀ b, b < w.heap.size → Y b → X b) : Lies w Y v n sz cells := by
  obtain ⟨A, c, h1, h2, h3, h5⟩ := h
  exact ⟨A, c, h1, h2, h3, fun i hi => by obtain ⟨a1, b, o, a2, a3, a4, a5⟩ := h5 i hi; exact ⟨a1, b, o, a2, fun hY => a3 (hy b a4 hY), a4, a5⟩⟩
theorem URep.mono {w : World} {X Y : Nat → Prop} {v : Value} {l : List (Nat × List UInt8)} (h : URep w X v l) (hy : ∀ b, b < w.heap.size → Y b → X b) : URep w Y v l := by
  obtain ⟨vals, h1, h2⟩ := h
  exact ⟨vals, h1.mono hy, fun i t ht => ⟨(h2 i t ht).1.mono hy, (h2 i t ht).2⟩⟩
theorem TRep.mono {w : World} {X Y : Nat → Prop} {vs : List Value} {t : Tree} (h : TRep w X vs t) (hy : ∀ b, b < w.heap.size → Y b → X b) : TRep w Y vs t := by
  induction h with
  | mk N S nl L U sv lv uv' cells hN hS hL hU hr ih => exact .mk N S nl L U sv lv uv' cells hN (hS.mono hy) (hL.mono hy) (hU.mono hy) ih
theorem FRep.mono {w : World} {X Y : Nat → Prop} {v : Value} {l : List Fld} (h : FRep w X v l) (hy : ∀ b, b < w.heap.size → Y b → X b) : FRep w Y v l := by
  induction h with
  | nil => exact .nil
  | arr b n cap t cur fs hb h hl subs hs hr ih => exact .arr b n cap t cur fs (fun hY => hb (hy b (lt_of_some h) hY)) h hl subs hs ih
/-- Fields of so many levels, within the bounds of numbers. -/
def fsB : Nat → List Fld → Bool
  | 0, _ => false
  | d + 1, fs => Nat.blt fs.length 4294967296 && fs.all fun f => decide (f.tag < 2147483648) && fsB d f.sub
theorem fsB_tags {d : Nat} {fs : List Fld} (h : fsB d fs = true) : TagsOk fs ∧ fs.length < 4294967296 := by
  cases d with
  | zero => cases h
  | succ d =>
    simp only [fsB, Bool.and_eq_true, List.all_eq_true, decide_eq_true_eq] at h
    refine ⟨?_, by simpa [Nat.blt_eq] using h.1⟩
    have h2 := h.2
    clear h
    induction fs with
    | nil => trivial
    | cons f r ih => exact ⟨(h2 f (by simp)).1, ih fun g hg => h2 g (by simp [hg])⟩
theorem fsB_sub {d : Nat} {fs : List Fld} (h : fsB (d + 1) fs = true) {f : Fld} (hf : f ∈ fs) : fsB d f.sub = true := by
  simp only [fsB, Bool.and_eq_true, List.all_eq_true, decide_eq_true_eq] at h
  exact (h.2 f hf).2
/-- Trees whose texts have a bound, and whose unknown tags meet G. -/
inductive TOk (G : List (Nat × List UInt8) → Prop) : Tree → Prop where
  | mk (N : Int) (S : List UInt8) (nl : Bool) (L : List Tree) (U : List (Nat × List UInt8)) (hS : S.length ≤ lim) (hL : L.length ≤ lim) (hU : G U) (h : ∀ x, x ∈ L → TOk G x) : TOk G (.mk N S nl L U)
theorem TOk.zero {G : List (Nat × List UInt8) → Prop} (h : G []) : TOk G .zero := .mk _ _ _ _ _ (Nat.zero_le _) (Nat.zero_le _) h (by simp)
theorem TOk.at {G : List (Nat × List UInt8) → Prop} {t : Tree} (h : TOk G t) (h0 : G []) (i : Nat) : TOk G (sAt t i) := by
  cases h with
  | mk N S nl L U hS hl hU hL =>
    simp only [sAt, Tree.L]
    split
    · rename_i x hx; exact hL x (List.mem_of_getElem? hx)
    · exact .zero h0
/-- One's own, behind what left all blocks as they were: it lies in an old block, or will in a new one. -/
theorem own_in {w w' : World} {base e : Nat} {d : Value} {bs : List UInt8} (h : Own w base e d bs) (hb : Below w.heap.size w w') : OwnB w' (fun b => (base ≤ b ∧ b < w.heap.size) ∨ w'.heap.size ≤ b) e d bs := by
  have h1 := OwnC.of_own h
  have h2 : OwnC w (fun b => (base ≤ b ∧ b < w.heap.size) ∨ w'.heap.size ≤ b) e 1 d bs.length (bs.map bv) := h1.mono (fun b hb hx => .inl ⟨hx, hb⟩)
  exact h2.keep (Y := fun _ => False) (keeps_below hb (Nat.le_refl _)) (fun _ _ _ h => h)
end Go.Proofs.Eng
