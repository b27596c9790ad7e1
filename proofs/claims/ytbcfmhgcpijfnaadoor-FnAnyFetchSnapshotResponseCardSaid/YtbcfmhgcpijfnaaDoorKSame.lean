/-
  Whether a struct of two numbers and tags says nothing; numbers appended, rows that hold no bytes stay.
-/
import Derived.Test.YtbcfmhgcpijfnaaDoorRK6
import Derived.Test.YtbcfmhgcpijfnaaDoorKbinG
import Derived.Test.YtbcfmhgcpijfnaaDoorKTags
set_option linter.unusedVariables false
set_option linter.unusedSimpArgs false
namespace Go.Proofs.Eng
open Go Go.RowKit Go.MapKept
attribute [local semireducible] wk wkD
section
variable {P : Program} {Q : Exit → Act → World → Prop} {nT : Nat} {σ : Sv} {k : List TD} {w : World} {all : Array Oper} {l : List Oper} {ty : TypeId} {ps : String} {af : Array Edge} {d : Nat} {x y : Operand} {t t' : TypeId}
theorem run_nebool {ρ : Operand → Value} {o : Oper} {a b : Bool} (ho : o.op = .binOp .neq t x y t') (ht : P.underlying t = some .bool) (hx : ρ x = .bool a) (hy : ρ y = .bool b) :
    (execOp ρ o).run P w = .ok (.value (.bool (!(a == b)))) w := by
  have heq : ∀ d, (Op.equalIn (d + 1) t (.bool a) (.bool b)).run P w = .ok (a == b) w := by
    intro d
    simp [Op.equalIn, run_underlying ht]
  simp [execOp, ho, hx, hy, eqGuard, binOp, Op.equal, Op.maxDepth, heq 9999]
theorem wk_nebool {a b : Bool} (hx : evs σ x = some (.bool a)) (hy : evs σ y = some (.bool b)) (ht : P.underlying t = some .bool) (hd : Nat.blt d nT = true) (h : wk P Q nT ((d, .bool (!(a == b))) :: σ) (.ops all l :: k) w) :
    wk P Q nT σ (.ops all (⟨some d, .binOp .neq t x y t', ty, ps, af, none⟩ :: l) :: k) w := wk_val (fun _ ha => run_nebool rfl ht (ha.ev hx) (ha.ev hy)) hd h
theorem wk_rangeNil {kt et : TypeId} (hx : evs σ x = some (.map none)) (ht : P.underlying t = some (.map kt et)) (hd : Nat.blt d nT = true)
    (h : wk P Q nT ((d, .pointer (some ⟨w.heap.size, 0, none⟩)) :: σ) (.ops all l :: k) (w.alloc (.mapIter none 0 #[] 0))) : wk P Q nT σ (.ops all (⟨some d, .range t x, ty, ps, af, none⟩ :: l) :: k) w := by
  refine wk_val (fun a ha => ?_) hd h
  have hx' := ha.ev hx
  have h1 : (Instr.range t (.map none)).run P w = .ok (.pointer (some ⟨w.heap.size, 0, none⟩)) (w.alloc (.mapIter none 0 #[] 0)) := by
    simp [Instr.range, run_underlying ht]
  simp [execOp, hx', h1]
theorem wk_nextNil {r since c0 : Nat} {seen : Array Nat} (hx : evs σ x = some (.pointer (some ⟨r, 0, none⟩))) (hr : w.heap[r]? = some (.mapIter none since seen c0)) (hd : Nat.blt d nT = true) (h : wk P Q nT ((d, .tuple #[.bool false]) :: σ) (.ops all l :: k) w) :
    wk P Q nT σ (.ops all (⟨some d, .next x false, ty, ps, af, none⟩ :: l) :: k) w := by
  refine wk_val (fun a ha => ?_) hd h
  have hx' := ha.ev hx
  simp [execOp, hx', Instr.next, getObj, Sem.run, hr]
end
theorem one3 {a b c : Value} (ha : a.oneCell' = true) (hb : b.oneCell' = true) (hc : c.oneCell' = true) : (#[a, b, c] : Array Value).all (·.oneCell') = true := by simp [ha, hb, hc]
end Go.Proofs.Eng
namespace Go.Proofs.YtbcfmhgcpijfnaaDoor
open Go Go.RowKit Go.Proofs.Eng Go.MapKept
set_option maxRecDepth 20000
set_option maxHeartbeats 8000000
theorem below2 {w : World} (o1 o2 : Obj) : Below w.heap.size w ((w.alloc o1).alloc o2) := (below1 w o1).trans ((below1 _ o2).mono (below1 w o1).size)
theorem c_TagsSame (w : World) (X : Nat → Prop) (u : Value) (l : List (Nat × List UInt8)) (hr : Rep w X u (.tags l)) :
    Calls Tryd.prog 58 #[.agg #[u], .agg #[.map none]] w fun e w' => e = .returned (.bool l.isEmpty) ∧ Below w.heap.size w w' := by
  have hb := below2 (w := w) (.cells #[u] 42) (.cells #[.map none] 42)
  have h1 : ((w.alloc (.cells #[u] 42)).alloc (.cells #[.map none] 42)).heap[w.heap.size]? = some (.cells #[u] 42 (0, 0)) :=
    ((below1 _ _).block _ (by simp)).trans (heap_alloc_new w _)
  have h2 : ((w.alloc (.cells #[u] 42)).alloc (.cells #[.map none] 42)).heap[(w.alloc (.cells #[u] 42)).heap.size]? = some (.cells #[.map none] 42 (0, 0)) := heap_alloc_new _ _
  refine calls_wk (args := [.agg #[u], .agg #[.map none]]) Tryd.func58 rfl rfl ?_
  cases hr with
  | tnil =>
    repeat (first
      | refine wk_seq ?_
      | refine wk_nil ?_
      | refine wk_skip ?_
      | refine wk_reg ?_
      | refine wk_gT rfl ?_
      | refine wk_gF rfl rfl ?_
      | refine wk_move rfl rfl ?_
      | refine wk_assign rfl rfl ?_
      | refine wk_pick rfl rfl rfl rfl ?_
      | refine wk_box rfl rfl ?_
      | refine wk_extract rfl rfl rfl ?_
      | refine wk_field (f := 0) (i := Tryd.t40) rfl Tryd.underlying42 rfl (by kernel_rfl) (by decide) rfl ?_
      | refine wk_load (v := .map none) rfl Tryd.underlying40 rfl (cell_blk h1 rfl) rfl ?_
      | refine wk_load (v := .map none) rfl Tryd.underlying40 rfl (cell_blk h2 rfl) rfl ?_
      | refine wk_eqnilm rfl rfl Tryd.underlying40 rfl ?_
      | refine wk_nebool (a := true) (b := true) rfl rfl Tryd.underlying4 rfl ?_
      | refine wk_maplen (X := X) (tl := []) rfl Tryd.underlying40 .tnil rfl ?_
      | refine wk_cmp rfl rfl (b := false) rfl rfl ?_)
    refine wk_condF rfl ?_
    repeat (first
      | refine wk_seq ?_
      | refine wk_nil ?_
      | refine wk_skip ?_
      | refine wk_reg ?_
      | refine wk_gT rfl ?_
      | refine wk_gF rfl rfl ?_
      | refine wk_move rfl rfl ?_
      | refine wk_assign rfl rfl ?_
      | refine wk_pick rfl rfl rfl rfl ?_
      | refine wk_box rfl rfl ?_
      | refine wk_extract rfl rfl rfl ?_
      | refine wk_field (f := 0) (i := Tryd.t40) rfl Tryd.underlying42 rfl (by kernel_rfl) (by decide) rfl ?_
      | refine wk_load (v := .map none) rfl Tryd.underlying40 rfl (cell_blk h1 rfl) rfl ?_
      | refine wk_load (v := .map none) rfl Tryd.underlying40 rfl (cell_blk h2 rfl) rfl ?_
      | refine wk_eqnilm rfl rfl Tryd.underlying40 rfl ?_
      | refine wk_nebool (a := true) (b := true) rfl rfl Tryd.underlying4 rfl ?_
      | refine wk_maplen (X := X) (tl := []) rfl Tryd.underlying40 .tnil rfl ?_
      | refine wk_cmp rfl rfl (b := false) rfl rfl ?_)
    refine wk_rangeNil rfl Tryd.underlying40 rfl ?_
    repeat (first
      | refine wk_seq ?_
      | refine wk_nil ?_
      | refine wk_skip ?_
      | refine wk_reg ?_
      | refine wk_gT rfl ?_
      | refine wk_gF rfl rfl ?_
      | refine wk_move rfl rfl ?_
      | refine wk_assign rfl rfl ?_
      | refine wk_pick rfl rfl rfl rfl ?_
      | refine wk_box rfl rfl ?_
      | refine wk_extract rfl rfl rfl ?_
      | refine wk_field (f := 0) (i := Tryd.t40) rfl Tryd.underlying42 rfl (by kernel_rfl) (by decide) rfl ?_
      | refine wk_load (v := .map none) rfl Tryd.underlying40 rfl (cell_blk h1 rfl) rfl ?_
      | refine wk_load (v := .map none) rfl Tryd.underlying40 rfl (cell_blk h2 rfl) rfl ?_
      | refine wk_eqnilm rfl rfl Tryd.underlying40 rfl ?_
      | refine wk_nebool (a := true) (b := true) rfl rfl Tryd.underlying4 rfl ?_
      | refine wk_maplen (X := X) (tl := []) rfl Tryd.underlying40 .tnil rfl ?_
      | refine wk_cmp rfl rfl (b := false) rfl rfl ?_)
    refine wk_loop (fun _ : Unit => [(27, .pointer (some ⟨((w.alloc (.cells #[.map none] 42)).alloc (.cells #[.map none] 42)).heap.size, 0, none⟩))])
      (fun _ w' => w' = (((w.alloc (.cells #[.map none] 42)).alloc (.cells #[.map none] 42)).alloc (.mapIter none 0 #[] 0))) (fun _ => 0) () rfl rfl ?_
    rintro _ w' rfl
    repeat (first
      | refine wk_seq ?_
      | refine wk_nil ?_
      | refine wk_skip ?_
      | refine wk_reg ?_
      | refine wk_gT rfl ?_
      | refine wk_gF rfl rfl ?_
      | refine wk_move rfl rfl ?_
      | refine wk_assign rfl rfl ?_
      | refine wk_pick rfl rfl rfl rfl ?_
      | refine wk_box rfl rfl ?_
      | refine wk_extract rfl rfl rfl ?_)
    refine wk_nextNil rfl (heap_alloc_new _ _) rfl ?_
    repeat (first
      | refine wk_seq ?_
      | refine wk_nil ?_
      | refine wk_skip ?_
      | refine wk_reg ?_
      | refine wk_gT rfl ?_
      | refine wk_gF rfl rfl ?_
      | refine wk_move rfl rfl ?_
      | refine wk_assign rfl rfl ?_
      | refine wk_pick rfl rfl rfl rfl ?_
      | refine wk_box rfl rfl ?_
      | refine wk_extract rfl rfl rfl ?_)
    refine wk_condF rfl ?_
    refine wk_loopExit ?_
    repeat (first
      | refine wk_seq ?_
      | refine wk_nil ?_
      | refine wk_skip ?_
      | refine wk_reg ?_
      | refine wk_gT rfl ?_
      | refine wk_gF rfl rfl ?_
      | refine wk_move rfl rfl ?_
      | refine wk_assign rfl rfl ?_
      | refine wk_pick rfl rfl rfl rfl ?_
      | refine wk_box rfl rfl ?_
      | refine wk_extract rfl rfl rfl ?_)
    exact wk_ret r0 rfl rfl ⟨rfl, hb.trans ((below1 _ _).mono hb.size)⟩
  | tags r ents cl _ hbr hheap hst hT hne =>
    have hle : l.isEmpty = false := by cases l with
      | nil => exact absurd rfl hne
      | cons _ _ => rfl
    rw [hle]
    repeat (first
      | refine wk_seq ?_
      | refine wk_nil ?_
      | refine wk_skip ?_
      | refine wk_reg ?_
      | refine wk_gT rfl ?_
      | refine wk_gF rfl rfl ?_
      | refine wk_move rfl rfl ?_
      | refine wk_assign rfl rfl ?_
      | refine wk_pick rfl rfl rfl rfl ?_
      | refine wk_box rfl rfl ?_
      | refine wk_extract rfl rfl rfl ?_
      | refine wk_field (f := 0) (i := Tryd.t40) rfl Tryd.underlying42 rfl (by kernel_rfl) (by decide) rfl ?_
      | refine wk_load (v := .map (some r)) rfl Tryd.underlying40 rfl (cell_blk h1 rfl) rfl ?_
      | refine wk_load (v := .map none) rfl Tryd.underlying40 rfl (cell_blk h2 rfl) rfl ?_
      | refine wk_eqnilm rfl rfl Tryd.underlying40 rfl ?_
      | refine wk_nebool (a := false) (b := true) rfl rfl Tryd.underlying4 rfl ?_)
    refine wk_condT rfl ?_
    repeat (first
      | refine wk_seq ?_
      | refine wk_nil ?_
      | refine wk_skip ?_
      | refine wk_reg ?_
      | refine wk_gT rfl ?_
      | refine wk_gF rfl rfl ?_
      | refine wk_move rfl rfl ?_
      | refine wk_assign rfl rfl ?_
      | refine wk_pick rfl rfl rfl rfl ?_
      | refine wk_box rfl rfl ?_
      | refine wk_extract rfl rfl rfl ?_)
    exact wk_ret r0 rfl rfl ⟨rfl, hb⟩
theorem c_LeadSame (w : World) (X : Nat → Prop) (p q : Int) (u : Value) (l : List (Nat × List UInt8)) (hr : Rep w X u (.tags l)) :
    Calls Tryd.prog 27 #[.agg #[.int .i32 p, .int .i32 q, u], .agg #[.int .i32 0, .int .i32 0, .map none]] w fun e w' => e = .returned (.bool (p == 0 && (q == 0 && l.isEmpty))) ∧ Below w.heap.size w w' := by
  have hb := below2 (w := w) (.cells #[.int .i32 p, .int .i32 q, u] 58) (.cells #[.int .i32 0, .int .i32 0, .map none] 58)
  have h1 : ((w.alloc (.cells #[.int .i32 p, .int .i32 q, u] 58)).alloc (.cells #[.int .i32 0, .int .i32 0, .map none] 58)).heap[w.heap.size]? = some (.cells #[.int .i32 p, .int .i32 q, u] 58 (0, 0)) :=
    ((below1 _ _).block _ (by simp)).trans (heap_alloc_new w _)
  have h2 : ((w.alloc (.cells #[.int .i32 p, .int .i32 q, u] 58)).alloc (.cells #[.int .i32 0, .int .i32 0, .map none] 58)).heap[(w.alloc (.cells #[.int .i32 p, .int .i32 q, u] 58)).heap.size]? = some (.cells #[.int .i32 0, .int .i32 0, .map none] 58 (0, 0)) := heap_alloc_new _ _
  have hr2 : Rep ((w.alloc (.cells #[.int .i32 p, .int .i32 q, u] 58)).alloc (.cells #[.int .i32 0, .int .i32 0, .map none] 58)) X u (.tags l) := hr.keep ⟨hb.size, fun b hb' _ => hb.block b hb'⟩
  refine calls_wk (args := [.agg #[.int .i32 p, .int .i32 q, u], .agg #[.int .i32 0, .int .i32 0, .map none]]) Tryd.func27 rfl rfl ?_
  by_cases hp : p = 0
  · subst hp
    by_cases hq : q = 0
    · subst hq
      repeat (first
        | refine wk_seq ?_
        | refine wk_nil ?_
        | refine wk_skip ?_
        | refine wk_reg ?_
        | refine wk_gT rfl ?_
        | refine wk_gF rfl rfl ?_
        | refine wk_move rfl rfl ?_
        | refine wk_assign rfl rfl ?_
        | refine wk_pick rfl rfl rfl rfl ?_
        | refine wk_box rfl rfl ?_
        | refine wk_extract rfl rfl rfl ?_
        | refine wk_field (f := 0) (i := Tryd.t21) rfl Tryd.underlying58 rfl (by kernel_rfl) (by decide) rfl ?_
        | refine wk_field (f := 1) (i := Tryd.t21) rfl Tryd.underlying58 rfl (by kernel_rfl) (by decide) rfl ?_
        | refine wk_field (f := 2) (i := Tryd.t42) rfl Tryd.underlying58 rfl (by kernel_rfl) (by decide) rfl ?_
        | refine wk_load (v := .int .i32 0) rfl Tryd.underlying21 rfl (cell_blk h1 rfl) rfl ?_
        | refine wk_load (v := .int .i32 0) rfl Tryd.underlying21 rfl (cell_blk h2 rfl) rfl ?_
        | refine wk_cmp rfl rfl (b := true) rfl rfl ?_)
      refine wk_loadA (vs := [u]) rfl Tryd.underlying42 rfl (show Tryd.prog.info? 42 = some Tryd.t42 by kernel_rfl) rfl (by
        intro j v hv
        cases j with
        | zero => cases hv; exact cell_blk h1 rfl
        | succ j => simp at hv) rfl ?_
      repeat (first
        | refine wk_seq ?_
        | refine wk_nil ?_
        | refine wk_skip ?_
        | refine wk_reg ?_
        | refine wk_gT rfl ?_
        | refine wk_gF rfl rfl ?_
        | refine wk_move rfl rfl ?_
        | refine wk_assign rfl rfl ?_
        | refine wk_pick rfl rfl rfl rfl ?_
        | refine wk_box rfl rfl ?_
        | refine wk_extract rfl rfl rfl ?_
        | refine wk_field (f := 0) (i := Tryd.t21) rfl Tryd.underlying58 rfl (by kernel_rfl) (by decide) rfl ?_
        | refine wk_field (f := 1) (i := Tryd.t21) rfl Tryd.underlying58 rfl (by kernel_rfl) (by decide) rfl ?_
        | refine wk_field (f := 2) (i := Tryd.t42) rfl Tryd.underlying58 rfl (by kernel_rfl) (by decide) rfl ?_
        | refine wk_load (v := .int .i32 0) rfl Tryd.underlying21 rfl (cell_blk h1 rfl) rfl ?_
        | refine wk_load (v := .int .i32 0) rfl Tryd.underlying21 rfl (cell_blk h2 rfl) rfl ?_)
      refine wk_loadA (vs := [.map none]) rfl Tryd.underlying42 rfl (show Tryd.prog.info? 42 = some Tryd.t42 by kernel_rfl) rfl (by
        intro j v hv
        cases j with
        | zero => cases hv; exact cell_blk h2 rfl
        | succ j => simp at hv) rfl ?_
      repeat (first
        | refine wk_seq ?_
        | refine wk_nil ?_
        | refine wk_skip ?_
        | refine wk_reg ?_
        | refine wk_gT rfl ?_
        | refine wk_gF rfl rfl ?_
        | refine wk_move rfl rfl ?_
        | refine wk_assign rfl rfl ?_
        | refine wk_pick rfl rfl rfl rfl ?_
        | refine wk_box rfl rfl ?_
        | refine wk_extract rfl rfl rfl ?_
        | refine wk_field (f := 0) (i := Tryd.t21) rfl Tryd.underlying58 rfl (by kernel_rfl) (by decide) rfl ?_
        | refine wk_field (f := 1) (i := Tryd.t21) rfl Tryd.underlying58 rfl (by kernel_rfl) (by decide) rfl ?_
        | refine wk_field (f := 2) (i := Tryd.t42) rfl Tryd.underlying58 rfl (by kernel_rfl) (by decide) rfl ?_
        | refine wk_load (v := .int .i32 0) rfl Tryd.underlying21 rfl (cell_blk h1 rfl) rfl ?_
        | refine wk_load (v := .int .i32 0) rfl Tryd.underlying21 rfl (cell_blk h2 rfl) rfl ?_)
      refine wk_call Tryd.call58 (vs := [.agg #[u], .agg #[.map none]]) rfl rfl ((c_TagsSame _ X u l hr2).mono ?_)
      rintro e w3 ⟨rfl, hb3⟩
      refine ⟨_, rfl, ?_⟩
      repeat (first
        | refine wk_seq ?_
        | refine wk_nil ?_
        | refine wk_skip ?_
        | refine wk_reg ?_
        | refine wk_gT rfl ?_
        | refine wk_gF rfl rfl ?_
        | refine wk_move rfl rfl ?_
        | refine wk_assign rfl rfl ?_
        | refine wk_pick rfl rfl rfl rfl ?_
        | refine wk_box rfl rfl ?_
        | refine wk_extract rfl rfl rfl ?_)
      exact wk_ret r0 rfl rfl ⟨by simp, hb.trans (hb3.mono hb.size)⟩
    · have cq : cmp .eql q 0 = some false := by simp [cmp, hq]
      repeat (first
        | refine wk_seq ?_
        | refine wk_nil ?_
        | refine wk_skip ?_
        | refine wk_reg ?_
        | refine wk_gT rfl ?_
        | refine wk_gF rfl rfl ?_
        | refine wk_move rfl rfl ?_
        | refine wk_assign rfl rfl ?_
        | refine wk_pick rfl rfl rfl rfl ?_
        | refine wk_box rfl rfl ?_
        | refine wk_extract rfl rfl rfl ?_
        | refine wk_field (f := 0) (i := Tryd.t21) rfl Tryd.underlying58 rfl (by kernel_rfl) (by decide) rfl ?_
        | refine wk_field (f := 1) (i := Tryd.t21) rfl Tryd.underlying58 rfl (by kernel_rfl) (by decide) rfl ?_
        | refine wk_field (f := 2) (i := Tryd.t42) rfl Tryd.underlying58 rfl (by kernel_rfl) (by decide) rfl ?_
        | refine wk_load (v := .int .i32 0) rfl Tryd.underlying21 rfl (cell_blk h1 rfl) rfl ?_
        | refine wk_load (v := .int .i32 q) rfl Tryd.underlying21 rfl (cell_blk h1 rfl) rfl ?_
        | refine wk_load (v := .int .i32 0) rfl Tryd.underlying21 rfl (cell_blk h2 rfl) rfl ?_
        | refine wk_cmp rfl rfl (b := false) cq rfl ?_
        | refine wk_cmp rfl rfl (b := true) rfl rfl ?_)
      exact wk_ret r0 rfl rfl ⟨by simp [hq], hb⟩
  · have cp : cmp .eql p 0 = some false := by simp [cmp, hp]
    repeat (first
      | refine wk_seq ?_
      | refine wk_nil ?_
      | refine wk_skip ?_
      | refine wk_reg ?_
      | refine wk_gT rfl ?_
      | refine wk_gF rfl rfl ?_
      | refine wk_move rfl rfl ?_
      | refine wk_assign rfl rfl ?_
      | refine wk_pick rfl rfl rfl rfl ?_
      | refine wk_box rfl rfl ?_
      | refine wk_extract rfl rfl rfl ?_
      | refine wk_field (f := 0) (i := Tryd.t21) rfl Tryd.underlying58 rfl (by kernel_rfl) (by decide) rfl ?_
      | refine wk_field (f := 1) (i := Tryd.t21) rfl Tryd.underlying58 rfl (by kernel_rfl) (by decide) rfl ?_
      | refine wk_field (f := 2) (i := Tryd.t42) rfl Tryd.underlying58 rfl (by kernel_rfl) (by decide) rfl ?_
      | refine wk_load (v := .int .i32 p) rfl Tryd.underlying21 rfl (cell_blk h1 rfl) rfl ?_
      | refine wk_load (v := .int .i32 q) rfl Tryd.underlying21 rfl (cell_blk h1 rfl) rfl ?_
      | refine wk_load (v := .int .i32 0) rfl Tryd.underlying21 rfl (cell_blk h2 rfl) rfl ?_
      | refine wk_cmp rfl rfl (b := false) cp rfl ?_)
    exact wk_ret r0 rfl rfl ⟨by simp [hp], hb⟩
theorem c_Lead0 (w : World) : Calls Tryd.prog 28 #[] w fun e w' => e = .returned (.agg #[.int .i32 0, .int .i32 0, .map none]) ∧ Below w.heap.size w w' := by
  have hi : Tryd.prog.info? 58 = some Tryd.t58 := by kernel_rfl
  have hz : Tryd.t58.zero = some (.agg #[.int .i32 0, .int .i32 0, .map none]) := by kernel_rfl
  refine calls_wk (args := []) Tryd.func28 rfl rfl ?_
  refine wk_seq ?_
  repeat (first | refine wk_seq ?_ | refine wk_reg ?_)
  refine wk_alloc hi hz rfl ?_
  repeat (first | refine wk_nil ?_ | refine wk_seq ?_ | refine wk_reg ?_)
  refine wk_alloc hi hz rfl ?_
  repeat (first | refine wk_nil ?_ | refine wk_seq ?_ | refine wk_reg ?_)
  have hb := below2 (w := w) (.cells #[.int .i32 0, .int .i32 0, .map none] 58) (.cells #[.int .i32 0, .int .i32 0, .map none] 58)
  have h1 : ((w.alloc (.cells #[.int .i32 0, .int .i32 0, .map none] 58)).alloc (.cells #[.int .i32 0, .int .i32 0, .map none] 58)).heap[w.heap.size]? = some (.cells #[.int .i32 0, .int .i32 0, .map none] 58 (0, 0)) :=
    ((below1 _ _).block _ (by simp)).trans (heap_alloc_new w _)
  have h2 : ((w.alloc (.cells #[.int .i32 0, .int .i32 0, .map none] 58)).alloc (.cells #[.int .i32 0, .int .i32 0, .map none] 58)).heap[(w.alloc (.cells #[.int .i32 0, .int .i32 0, .map none] 58)).heap.size]? = some (.cells #[.int .i32 0, .int .i32 0, .map none] 58 (0, 0)) := heap_alloc_new _ _
  refine wk_call Tryd.call29 (vs := [.pointer (some ⟨(w.alloc (.cells #[.int .i32 0, .int .i32 0, .map none] 58)).heap.size, 0, none⟩)]) rfl rfl ((c_LeadDef _ _).mono ?_)
  rintro e w3 ⟨rfl, rfl⟩
  refine ⟨_, rfl, ?_⟩
  repeat (first | refine wk_nil ?_ | refine wk_seq ?_ | refine wk_reg ?_)
  refine wk_loadA (vs := [.int .i32 0, .int .i32 0, .map none]) rfl Tryd.underlying58 rfl hi rfl (by
    intro j v hv
    have : ((⟨(w.alloc (.cells #[.int .i32 0, .int .i32 0, .map none] 58)).heap.size, 0, none⟩ : Addr).add j) = ⟨(w.alloc (.cells #[.int .i32 0, .int .i32 0, .map none] 58)).heap.size, j, none⟩ := by rw [add_addr, Nat.zero_add]
    exact Eq.trans (congrArg _ this) (cell_blk h2 hv)) rfl ?_
  refine wk_storeRow (i := Tryd.t58) (cs := #[.int .i32 0, .int .i32 0, .map none]) rfl rfl h1 hi rfl rfl (one3 rfl rfl rfl) ?_
  repeat (first | refine wk_nil ?_ | refine wk_seq ?_ | refine wk_reg ?_)
  refine wk_retc r0 rfl rfl (loadVar_cells (vs := [.int .i32 0, .int .i32 0, .map none]) Tryd.underlying58 rfl hi rfl (cells_blk (setRow_heap _ _ _ _ _ _ h1))) ⟨rfl, below_row hb (Nat.le_refl _) _⟩
theorem AppendUint32_grow (w : World) (base : Nat) (d : Value) (bs : List UInt8) (n : Int) (hown : Own w base 5 d bs) (hb : base ≤ w.heap.size) (hs : bs.length + 4 ≤ lim) :
    Calls Tryd.prog 53 #[d, .int .u32 n] w fun e w' => ∃ d', e = .returned d' ∧ Own w' base 5 d' (bs ++ be 4 n) ∧ w.grownBy w' d.ownBlock := by
  refine calls_wk (args := [d, .int .u32 n]) Tryd.func53 rfl rfl ?_
  refine wk_seq ?_
  refine wk_reg (id := 0) ?_
  refine wk_assign rfl rfl ?_
  refine wk_nil ?_
  refine wk_seq ?_
  refine wk_reg (id := 1) ?_
  refine wk_move rfl rfl ?_
  refine wk_move rfl rfl ?_
  refine wk_shr rfl rfl (by decide) rfl ?_
  refine wk_conv rfl Tryd.underlying64 Tryd.underlying5 rfl ?_
  refine wk_move rfl rfl ?_
  refine wk_shr rfl rfl (by decide) rfl ?_
  refine wk_conv rfl Tryd.underlying64 Tryd.underlying5 rfl ?_
  refine wk_move rfl rfl ?_
  refine wk_shr rfl rfl (by decide) rfl ?_
  refine wk_conv rfl Tryd.underlying64 Tryd.underlying5 rfl ?_
  refine wk_move rfl rfl ?_
  refine wk_conv rfl Tryd.underlying64 Tryd.underlying5 rfl ?_
  refine wk_bs4 byteT rfl rfl rfl rfl rfl ?_
  refine wk_appendG rfl rfl (app_newG byteT hown hb (xs := be 4 n) (by rw [be_length]; exact hs) ?_ rfl rfl) rfl ?_
  · simp only [be, List.map_cons, List.map_nil]
    refine cons_eq (u8_eq ?_) (cons_eq (u8_eq ?_) (cons_eq (u8_eq ?_) (cons_eq (u8_eq ?_) rfl))) <;> simp [Int.fdiv_eq_ediv, IntKind.bits]
  · intro d' w' ho hg
    refine wk_assign rfl rfl ?_
    refine wk_nil ?_
    exact wk_ret r0 rfl rfl ⟨d', rfl, ho, grown_new hg⟩
theorem AppendInt32_grow (w : World) (base : Nat) (d : Value) (bs : List UInt8) (n : Int) (hown : Own w base 5 d bs) (hb : base ≤ w.heap.size) (hs : bs.length + 4 ≤ lim) :
    Calls Tryd.prog 15 #[d, .int .i32 n] w fun e w' => ∃ d', e = .returned d' ∧ Own w' base 5 d' (bs ++ be 4 n) ∧ w.grownBy w' d.ownBlock := by
  refine calls_wk (args := [d, .int .i32 n]) Tryd.func15 rfl rfl ?_
  refine wk_seq ?_
  refine wk_reg (id := 0) ?_
  refine wk_assign rfl rfl ?_
  refine wk_nil ?_
  refine wk_seq ?_
  refine wk_reg (id := 1) ?_
  refine wk_move rfl rfl ?_
  refine wk_move rfl rfl ?_
  refine wk_conv rfl Tryd.underlying21 Tryd.underlying64 rfl ?_
  refine wk_call Tryd.call53 (vs := [d, .int .u32 (IntKind.u32.wrap n)]) rfl rfl ((AppendUint32_grow w base d bs _ hown hb hs).mono ?_)
  rintro e w' ⟨d', rfl, ho, hg⟩
  refine ⟨d', rfl, ?_⟩
  refine wk_assign rfl rfl ?_
  refine wk_nil ?_
  exact wk_ret r0 rfl rfl ⟨d', rfl, by rwa [be4_wrap n _ rfl] at ho, hg⟩
end Go.Proofs.YtbcfmhgcpijfnaaDoor
