/-
  Tags are written by rising numbers: keys are collected, sorted, and each tag is appended; tags appended behind a slice.
-/
import Derived.Test.YtbcfmhgcpijfnaaDoorRK5
import Derived.Laws.MakeOwn
set_option linter.unusedVariables false
set_option linter.unusedSimpArgs false
namespace Go.Proofs.Eng
open Go Go.RowKit Go.MapKept
open Go.ChangeMaps (setBlock)
attribute [local semireducible] wk wkD
section
variable {P : Program} {Q : Exit → Act → World → Prop} {nT : Nat} {σ : Sv} {k : List TD} {w : World} {all : Array Oper} {l : List Oper} {ty : TypeId} {ps : String} {af : Array Edge} {d : Nat} {x y z : Operand} {t t' e : TypeId}
/-- Numbers of kind uint32, and slices of them. -/
structure U32T (P : Program) (t e : TypeId) : Prop where
  sl : P.underlying t = some (.slice e)
  info : ∃ i, P.info? e = some i ∧ i.zero = some (.int .u32 0) ∧ i.size = 1 ∧ i.bytes = 4
theorem wk_make0 {base c : Nat} {kl kc : IntKind} (hU : U32T P t e) (hx : evs σ x = some (.int kl 0)) (hy : evs σ y = some (.int kc (c : Int))) (hc : c < 2147483648) (hb : base ≤ w.heap.size) (hd : Nat.blt d nT = true)
    (h : ∀ w', w'.ownsRow base e 1 (.slice (some ⟨w.heap.size, 0, none⟩) 0 c) 0 [] → w.grownBy w' none → wk P Q nT ((d, .slice (some ⟨w.heap.size, 0, none⟩) 0 c) :: σ) (.ops all l :: k) w') :
    wk P Q nT σ (.ops all (⟨some d, .makeSlice t x y, ty, ps, af, none⟩ :: l) :: k) w := by
  obtain ⟨i, hi, hz, hs, hby⟩ := hU.info
  obtain ⟨w', h1, h2, h3⟩ := run_make_own (P := P) w base t e i _ 1 hU.sl hi hz hs kl kc c (by rw [hby]; omega) (by simp only [maxLen]; omega) hb
  exact wk_val (fun a ha => by simp [execOp, ha.ev hx, ha.ev hy, h1]) hd (h w' h2 h3)
theorem wk_bsU {v : Value} {n : Int} (hU : U32T P t e) (hx : evs σ x = some v) (hv : v = .int .u32 n) (hd : Nat.blt d nT = true)
    (h : wk P Q nT ((d, .slice (some ⟨w.heap.size, 0, none⟩) 1 1) :: σ) (.ops all l :: k) (w.alloc (.cells #[v] e))) : wk P Q nT σ (.ops all (⟨some d, .buildSlice t 1 #[(0, x)], ty, ps, af, none⟩ :: l) :: k) w := by
  subst hv
  obtain ⟨i, hi, hz, hs, hby⟩ := hU.info
  refine wk_val (fun a ha => ?_) hd h
  simp [execOp, Instr.buildSlice, run_underlying hU.sl, sizeOf, typeInfo, hi, hs, zeroValue, hz, ha.ev hx, Instr.fill, Value.cells, newRow]
  kernel_rfl
theorem wk_appendU {base n : Nat} {v u : Value} {a : Addr} {c : Nat} {xs : List Value} {q : Int} (hU : U32T P t e) (hx : evs σ x = some v) (hy : evs σ y = some (.slice (some a) 1 c)) (hown : w.ownsRow base e 1 v n xs) (hc : w.cell? a = some u) (hu : u = .int .u32 q) (hn : n < 4294967296) (hb : base ≤ w.heap.size) (hd : Nat.blt d nT = true)
    (h : ∀ v' w', w'.ownsRow base e 1 v' (n + 1) (xs ++ [u]) → w.grownBy w' v.ownBlock → wk P Q nT ((d, v') :: σ) (.ops all l :: k) w') :
    wk P Q nT σ (.ops all (⟨some d, .call ⟨.builtin .append, #[x, y], #[t, t]⟩, ty, ps, af, none⟩ :: l) :: k) w := by
  subst hu
  obtain ⟨i, hi, hz, hs, hby⟩ := hU.info
  obtain ⟨v', w', h1, h2, h3, _⟩ := run_append_own (P := P) w base t ty e i (.int .u32 0) 1 4 hU.sl hi hz hs hby rfl (by omega) v n xs hown a 1 c [.int .u32 q] rfl
    (by intro j u hj
        match j with
        | 0 => simp only [List.getElem?_cons_zero, Option.some.injEq] at hj; subst hj; rw [show a.add 0 = a from by cases a; rfl]; exact hc
        | j + 1 => simp at hj)
    (by intro u hu; obtain rfl := List.mem_singleton.1 hu; rfl) (by simp only [maxLen]; omega) (by omega) hb
  exact wk_val (fun a ha => by simp [execOp, resolve, invoke, builtin, ha.ev hx, ha.ev hy, h1]) hd (h v' w' h2 h3)
theorem wk_iface {v : Value} {ki : Nat} (hx : evs σ x = some v) (hr : ∀ ρ : Operand → Value, ρ x = v → (execOp ρ ⟨some d, .makeInterface t x, ty, ps, af, none⟩).run P w = .ok (.value (.iface ki v)) w) (hd : Nat.blt d nT = true) (h : wk P Q nT ((d, .iface ki v) :: σ) (.ops all l :: k) w) :
    wk P Q nT σ (.ops all (⟨some d, .makeInterface t x, ty, ps, af, none⟩ :: l) :: k) w := wk_val (fun _ ha => hr _ (ha.ev hx)) hd h
end
theorem urow_cells {d : Value} {w : World} {base e n : Nat} {xs : List Value} (h : w.ownsRow base e 1 d n xs) : d.cells = #[d] ∧ d.oneCell' = true := by
  rcases h.2 with ⟨rfl, _⟩ | ⟨g, cap, cur, rfl, _⟩ <;> exact ⟨rfl, rfl⟩
theorem urow_ne {w : World} {base e n : Nat} {d : Value} {xs : List Value} (h : w.ownsRow base e 1 d n xs) {b : Nat} {o : Obj} (hb : w.heap[b]? = some o) (ht : ∀ c, o ≠ .cells c e (0, 0)) : some b ≠ d.ownBlock := by
  rcases h.2 with ⟨rfl, _⟩ | ⟨g, cap, cur, rfl, _, hg, _⟩
  · simp [Value.ownBlock]
  · intro e
    simp only [Value.ownBlock, Option.some.injEq] at e
    subst e
    rw [hg] at hb
    simp only [Option.some.injEq] at hb
    exact ht _ hb.symm
theorem grown_any {w w' : World} (h : w.grownBy w' none) : Below w.heap.size w w' := ⟨h.os, h.tape, h.output, h.size, fun k hk => h.block k hk (by simp)⟩
theorem grown_of_below {w w' : World} (h : Below w.heap.size w w') (row : Option Nat) : w.grownBy w' row := ⟨h.os, h.tape, h.output, h.size, fun k hk _ => h.block k hk⟩
theorem below_of_urow {w w' : World} {base e n : Nat} {d : Value} {xs : List Value} (h : w.ownsRow base e 1 d n xs) (hb : base ≤ w.heap.size) (hg : w.grownBy w' d.ownBlock) : Below base w w' :=
  ⟨hg.os, hg.tape, hg.output, hg.size, fun k hk => hg.block k (by omega) (fun e => by have := (h.lt k e.symm).1; omega)⟩
theorem below_setBlock {w w' : World} {B r : Nat} (h : Below B w w') (hb : B ≤ r) (o : Obj) : Below B w (setBlock w' r o) :=
  ⟨h.os, h.tape, h.output, by simpa [setBlock] using h.size, fun k hk => by
    have : (setBlock w' r o).heap[k]? = w'.heap[k]? := by simp only [setBlock]; rw [Array.getElem?_setIfInBounds_ne (by omega)]
    exact this.trans (h.block k hk)⟩
theorem sorted_eq : ∀ {a b : List Int}, a.Perm b → a.Pairwise (fun x y => x ≤ y) → b.Pairwise (fun x y => x ≤ y) → a = b := by
  intro a b h ha hb
  exact List.Perm.eq_of_pairwise (fun x y _ _ h1 h2 => Int.le_antisymm h1 h2) ha hb h
def kvInt : Value → Int
  | .int _ n => n
  | _ => 0
theorem ints_of {C : List Value} {l : List (Nat × List UInt8)} (h : C.Perm (l.map fun t => kv t.1)) : C = (C.map kvInt).map (Value.int .u32) ∧ (C.map kvInt).Perm (l.map fun t => (t.1 : Int)) := by
  constructor
  · rw [List.map_map]
    conv => lhs; rw [← List.map_id C]
    refine List.map_congr_left fun v hv => ?_
    obtain ⟨t, _, rfl⟩ := List.mem_map.1 (h.mem_iff.1 hv)
    rfl
  · have := h.map kvInt
    rw [List.map_map] at this
    exact this
end Go.Proofs.Eng
namespace Go.Proofs.YtbcfmhgcpijfnaaDoor
open Go Go.RowKit Go.Proofs.Eng Go.MapKept
open Go.ChangeMaps (setBlock)
set_option maxRecDepth 20000
set_option maxHeartbeats 4000000
theorem u32T : U32T Tryd.prog 66 64 := ⟨Tryd.underlying66, Tryd.t64, by kernel_rfl, rfl, rfl, rfl⟩
theorem c_Each (w : World) (base cb b o : Nat) (v : Value) (bs : List UInt8) (l : List (Nat × List UInt8)) (hC : CellOwn w base cb bs) (hb : base ≤ w.heap.size) (hlt : b < base ∨ ∃ cc tt z, w.heap[b]? = some (.cells cc tt z) ∧ tt ≠ 5 ∧ tt ≠ 22) (hc : w.cell? ⟨b, o, none⟩ = some v) (hr : Rep w (fun x => base ≤ x) v (.tags l))
    (hs : l.Pairwise (fun a b => a.1 < b.1)) (hk : ∀ t ∈ l, t.1 < 4294967296) (hn : l.length < 2147483648) (hne : l ≠ []) (hlim : bs.length + (l.flatMap wtag).length ≤ lim) :
    Calls Tryd.prog 56 #[.pointer (some ⟨b, o, none⟩), .func (.func 57) #[] #[.pointer (some ⟨cb, 0, none⟩)]] w fun e w' => e = .returned (.tuple #[]) ∧ CellOwn w' base cb (bs ++ l.flatMap wtag) ∧ Below base w w' ∧ w'.heap[b]? = w.heap[b]? := by
  have hbs : b < w.heap.size := World.block_lt_of_cell? w ⟨b, o, none⟩ hc
  have hstep : ∀ w1 w2 : World, w1.heap[b]? = w.heap[b]? → Below base w1 w2 → KeptT w1 w2 → w2.heap[b]? = w.heap[b]? := by
    intro w1 w2 h1 h2 h3
    rcases hlt with h | ⟨cc, tt, z, h4, h5, h6⟩
    · exact (h2.block b h).trans h1
    · rw [h4] at h1 ⊢
      exact h3 b cc tt z h5 h6 h1
  have hln : 1 ≤ l.length := by cases l with
    | nil => exact absurd rfl hne
    | cons _ _ => simp
  have hcmp : cmp .eql ((l.length : Nat) : Int) 0 = some false := by
    simp [cmp, hne]
  have hr0 := hr
  cases hr with
  | tnil => exact absurd rfl hne
  | tags r ents cl _ hbr hheap hst hT _ =>
  have hrb : r < base := by omega
  refine calls_wk (args := [.pointer (some ⟨b, o, none⟩), .func (.func 57) #[] #[.pointer (some ⟨cb, 0, none⟩)]]) Tryd.func56 rfl rfl ?_
  refine wk_seq ?_
  refine wk_seq ?_
  refine wk_reg (id := 0) ?_
  refine wk_move rfl rfl ?_
  refine wk_nilCheck rfl rfl ?_
  refine wk_field (f := 0) (i := Tryd.t40) rfl Tryd.underlying42 rfl (by kernel_rfl) (by decide) rfl ?_
  refine wk_load (v := .map (some r)) rfl Tryd.underlying40 rfl hc rfl ?_
  refine wk_maplen (X := fun x => base ≤ x) (tl := l) rfl Tryd.underlying40 hr0 rfl ?_
  refine wk_cmp rfl rfl (by with_reducible assumption) rfl ?_
  refine wk_nil ?_
  refine wk_condF rfl ?_
  refine wk_skip ?_
  refine wk_seq ?_
  refine wk_reg (id := 1) ?_
  refine wk_move rfl rfl ?_
  refine wk_nilCheck rfl rfl ?_
  refine wk_field (f := 0) (i := Tryd.t40) rfl Tryd.underlying42 rfl (by kernel_rfl) (by decide) rfl ?_
  refine wk_load (v := .map (some r)) rfl Tryd.underlying40 rfl hc rfl ?_
  refine wk_maplen (X := fun x => base ≤ x) (tl := l) rfl Tryd.underlying40 hr0 rfl ?_
  refine wk_make0 (base := w.heap.size) u32T rfl rfl hn (Nat.le_refl _) rfl ?_
  intro w1 ho1 hg1
  have b1 := grown_any hg1
  refine wk_alloc (t := 66) (i := Tryd.t66) (by kernel_rfl) rfl rfl ?_
  refine wk_store1 (i := Tryd.t66) rfl rfl (heap_alloc_new w1 _) (by kernel_rfl) rfl rfl rfl (show 0 < 1 by decide) ?_
  obtain ⟨w3, hw3⟩ : ∃ w3, w3 = (w1.alloc (.cells #[.slice none 0 0] 66)).setRow w1.heap.size #[.slice (some ⟨w.heap.size, 0, none⟩) 0 l.length] := ⟨_, rfl⟩
  show wk _ _ _ _ _ ((w1.alloc (.cells #[.slice none 0 0] 66)).setRow w1.heap.size #[.slice (some ⟨w.heap.size, 0, none⟩) 0 l.length])
  rw [← hw3]
  have b2 : Below w1.heap.size w1 w3 := by rw [hw3]; exact below_row (below1 w1 _) (Nat.le_refl _) _
  have b3 : Below w.heap.size w w3 := b1.trans (b2.mono b1.size)
  have g3 : w3.heap[w1.heap.size]? = some (.cells #[.slice (some ⟨w.heap.size, 0, none⟩) 0 l.length] 66 (0, 0)) := by rw [hw3]; exact setRow_heap _ _ _ _ _ _ (heap_alloc_new w1 _)
  have o3 : w3.ownsRow w.heap.size 64 1 (.slice (some ⟨w.heap.size, 0, none⟩) 0 l.length) 0 [] := ho1.kept (grown_of_below b2 none) (.inr (by simp [Value.ownBlock]))
  clear hw3
  have hcB : ∀ w' : World, w'.heap[b]? = w.heap[b]? → w'.cell? ⟨b, o, none⟩ = some (.map (some r)) := fun w' h => (World.cell?_of_block (a := ⟨b, o, none⟩) h).trans hc
  have hhB : ∀ w' : World, Below base w w' → w'.heap[r]? = some (.map ents cl) := fun w' h => (h.block r hrb).trans hheap
  refine wk_nil ?_
  refine wk_seq ?_
  refine wk_seq ?_
  refine wk_reg (id := 2) ?_
  refine wk_move rfl rfl ?_
  refine wk_nilCheck rfl rfl ?_
  refine wk_field (f := 0) (i := Tryd.t40) rfl Tryd.underlying42 rfl (by kernel_rfl) (by decide) rfl ?_
  refine wk_load (v := .map (some r)) rfl Tryd.underlying40 rfl (hcB w3 (b3.block b hbs)) rfl ?_
  refine wk_range (bm := r) (es := ents) (cl := cl) rfl Tryd.underlying40 (hhB w3 (b3.mono hb)) rfl ?_
  have b4 : Below w3.heap.size w3 (w3.alloc (.mapIter (some r) cl #[] cl)) := below1 w3 _
  have g4 : (w3.alloc (.mapIter (some r) cl #[] cl)).heap[w1.heap.size]? = some (.cells #[.slice (some ⟨w.heap.size, 0, none⟩) 0 l.length] 66 (0, 0)) := (b4.block _ (lt_of_some g3)).trans g3
  have hKR : w1.heap.size < w3.heap.size := lt_of_some g3
  have hR : w.heap.size ≤ w3.heap.size := b3.size
  refine wk_nil ?_
  refine wk_loop (fun _ : Array Nat × List Value => [(0, .pointer (some ⟨b, o, none⟩)), (1, .func (.func 57) #[] #[.pointer (some ⟨cb, 0, none⟩)]), (4, .pointer (some ⟨w1.heap.size, 0, none⟩)), (24, .pointer (some ⟨w3.heap.size, 0, none⟩))])
    (fun i w' => Below w.heap.size w w' ∧ (i.2 ++ (leftOf ents i.1).toList.map (·.key)).Perm (ents.toList.map (·.key)) ∧ (∃ d, w'.heap[w1.heap.size]? = some (.cells #[d] 66 (0, 0)) ∧ w'.ownsRow w.heap.size 64 1 d i.2.length i.2) ∧ w'.heap[w3.heap.size]? = some (.mapIter (some r) cl i.1 cl))
    (fun i => (leftOf ents i.1).toList.length) (#[], []) rfl ⟨b3.trans (b4.mono hR), by rw [left_all]; exact List.Perm.refl _, ⟨_, g4, o3.alloc _⟩, heap_alloc_new w3 _⟩ ?_
  · rintro ⟨seen, C⟩ w4 ⟨hb4, hp4, ⟨d, hd4, ho4⟩, hR4⟩
    simp only at hp4 hR4 ho4
    have hw4 : w.heap.size ≤ w4.heap.size := hb4.size
    refine wk_seq ?_
    refine wk_reg (id := 3) ?_
    refine wk_nextMap (bm := r) (es := ents) (clock := cl) rfl hR4 (hhB w4 (hb4.mono hb)) (fun x hx => hst.1 x hx) (Nat.le_refl _) rfl ?_ ?_
    · intro hz
      refine wk_extract rfl rfl rfl ?_
      refine wk_nil ?_
      refine wk_seq ?_
      refine wk_condF rfl ?_
      refine wk_loopExit ?_
      rw [hz] at hp4
      simp only [List.map_nil, List.append_nil] at hp4
      obtain ⟨hC1, hC2⟩ := ints_of (hp4.trans hT.keys)
      have hCl : C.length = l.length := by
        have h1 := hp4.length_eq
        have h2 := hT.keys.length_eq
        simp only [List.length_map] at h1 h2
        omega
      obtain ⟨blk, cap, cur, rfl, hblk, hbc, hnc, _, _, htk⟩ : ∃ g cap cur, d = .slice (some ⟨g, 0, none⟩) C.length cap ∧ w.heap.size ≤ g ∧ w4.heap[g]? = some (.cells cur 64 (0, 0)) ∧ C.length ≤ cap ∧ cap ≤ maxLen ∧ cur.size = cap * 1 ∧ cur.toList.take (C.length * 1) = C := by
        rcases ho4.2 with ⟨_, h0⟩ | h
        · omega
        · exact h
      have hne : blk ≠ w1.heap.size := fun e => by
        subst e
        rw [hbc] at hd4
        simp only [Option.some.injEq, Obj.cells.injEq] at hd4
        exact absurd hd4.2.1 (by decide)
      refine wk_seq ?_
      refine wk_reg (id := 6) ?_
      refine wk_load rfl Tryd.underlying66 rfl (by exact cell_blk (by with_reducible assumption) rfl) rfl ?_
      refine wk_iface (ki := 66) rfl (fun ρ h => by simp [execOp, h, Instr.makeInterface, run_underlying Tryd.underlying66]) rfl ?_
      refine wk_makeFunc (vs := []) (us := [.pointer (some ⟨w1.heap.size, 0, none⟩)]) rfl rfl rfl ?_
      have hCL : (C.map kvInt).length = C.length := List.length_map _
      have hsort := c_sort w4 blk cap w1.heap.size (C.map kvInt) cur hbc (by rw [← hC1, hCL]; simpa using htk) (by rw [hCL]; have := congrArg List.length htk; simp at this; omega) (by omega) (by omega) (by rw [hCL]; exact hd4)
      rw [hCL] at hsort
      refine wk_call Tryd.call65 (vs := [.iface 66 (.slice (some ⟨blk, 0, none⟩) C.length cap), .func (.func 66) #[] #[.pointer (some ⟨w1.heap.size, 0, none⟩)]]) rfl rfl (hsort.mono ?_)
      rintro e w6 ⟨rfl, ks', cur', hp6, hs6, hb6, ht6, hg6⟩
      refine ⟨_, rfl, ?_⟩
      have hks : ks' = l.map (fun t => (t.1 : Int)) := sorted_eq (hp6.trans hC2) hs6 (by rw [List.pairwise_map]; exact hs.imp (fun h => by omega))
      subst hks
      have b6 : Below w.heap.size w w6 := hb4.trans ⟨hg6.os, hg6.tape, hg6.output, hg6.size, fun k hk => hg6.block k (by omega) (fun e => by cases e; omega)⟩
      have hd6 : w6.heap[w1.heap.size]? = some (.cells #[.slice (some ⟨blk, 0, none⟩) C.length cap] 66 (0, 0)) := (hg6.block _ (lt_of_some hd4) (fun e => hne (by cases e; rfl))).trans hd4
      rw [hCl] at hd6 ht6
      refine wk_nil ?_
      refine wk_seq ?_
      refine wk_reg (id := 7) ?_
      refine wk_load rfl Tryd.underlying66 rfl (by exact cell_blk (by with_reducible assumption) rfl) rfl ?_
      refine wk_slen rfl Tryd.underlying66 rfl ?_
      refine wk_move rfl rfl ?_
      refine wk_nil ?_
      refine wk_loop (fun j : Nat => [(0, .pointer (some ⟨b, o, none⟩)), (1, .func (.func 57) #[] #[.pointer (some ⟨cb, 0, none⟩)]), (37, .slice (some ⟨blk, 0, none⟩) l.length cap), (38, .int .i64 ((l.length : Nat) : Int)), (39, .int .i64 (j : Int))])
        (fun j w' => j ≤ l.length ∧ Below base w w' ∧ CellOwn w' base cb (bs ++ (l.take j).flatMap wtag) ∧ w'.heap[blk]? = some (.cells cur' 64 (0, 0)) ∧ w'.heap[b]? = w.heap[b]?) (fun j => l.length - j) 0 rfl
        ⟨Nat.zero_le _, b6.mono hb, by simpa using hC.below b6, hb6, b6.block b hbs⟩ ?_
      rintro j w7 ⟨hj, b7, hC7, hb7, hk7⟩
      by_cases hj2 : j < l.length
      · have hcm : cmp .lss (j : Int) ((l.length : Nat) : Int) = some true := by simp [cmp]; omega
        have hnx : IntKind.i64.wrap ((j : Int) + 1) = ((j + 1 : Nat) : Int) := by rw [IntKind.wrap_i64]; omega
        have hm : l[j] ∈ l := List.getElem_mem hj2
        have hcell : w7.cell? ⟨blk, 0 + j * Tryd.t64.size, none⟩ = some (kv l[j].1) := by
          rw [show 0 + j * Tryd.t64.size = j from by show 0 + j * 1 = j; omega]
          refine cell_blk hb7 ?_
          have h1 : (cur'.toList.take l.length)[j]? = ((l.map (fun t => (t.1 : Int))).map (Value.int .u32))[j]? := by rw [ht6]
          rw [List.getElem?_take_of_lt hj2] at h1
          rw [h1, List.getElem?_map, List.getElem?_map, List.getElem?_eq_getElem hj2]
          rfl
        refine wk_seq ?_
        refine wk_reg (id := 8) ?_
        refine wk_cmp rfl rfl (by with_reducible assumption) rfl ?_
        refine wk_nil ?_
        refine wk_seq ?_
        refine wk_condT rfl ?_
        refine wk_skip ?_
        refine wk_seq ?_
        refine wk_block ?_
        refine wk_seq ?_
        refine wk_reg (id := 9) ?_
        refine wk_idx (i := Tryd.t64) (b := blk) (off := 0) (n := l.length) (c := cap) rfl rfl Tryd.underlying66 (by kernel_rfl) hj2 rfl ?_
        refine wk_load (v := kv l[j].1) rfl Tryd.underlying64 rfl hcell rfl ?_
        refine wk_assign rfl rfl ?_
        refine wk_nil ?_
        refine wk_reg (id := 10) ?_
        refine wk_move rfl rfl ?_
        refine wk_move rfl rfl ?_
        refine wk_move rfl rfl ?_
        refine wk_nilCheck rfl rfl ?_
        refine wk_field (f := 0) (i := Tryd.t40) rfl Tryd.underlying42 rfl (by kernel_rfl) (by decide) rfl ?_
        refine wk_load (v := .map (some r)) rfl Tryd.underlying40 rfl (hcB w7 hk7) rfl ?_
        refine wk_move rfl rfl ?_
        refine wk_lookup (X := fun x => base ≤ x) (tl := l) (bs := l[j].2) rfl rfl Tryd.underlying40 Tryd.underlying64 (hhB w7 b7) (hT.keep (Keeps.of_below b7)) hs hm rfl ?_
        intro v7 hv7
        have htake : (l.take (j + 1)).flatMap wtag = (l.take j).flatMap wtag ++ wtag l[j] := by
          rw [List.take_succ_eq_append_getElem hj2, List.flatMap_append]
          simp
        have hle : (bs ++ (l.take j).flatMap wtag).length + (wtag (l[j].1, l[j].2)).length ≤ lim := by
          have h1 : (l.flatMap wtag).length = ((l.take j).flatMap wtag).length + (wtag l[j]).length + ((l.drop (j + 1)).flatMap wtag).length := by
            conv => lhs; rw [← List.take_append_drop (j + 1) l]
            rw [List.flatMap_append, htake]
            simp only [List.length_append]
          simp only [List.length_append]
          show _ + (wtag l[j]).length ≤ lim
          omega
        refine wk_callc (f := 57) (cap := #[.pointer (some ⟨cb, 0, none⟩)]) (vs := [kv l[j].1, v7]) Tryd.call57 rfl rfl rfl
          ((c_EachFn w7 base cb v7 _ l[j].1 l[j].2 hC7 (Nat.le_trans hb b7.size) (hk _ hm) hv7 hle).mono ?_)
        rintro e w8 ⟨rfl, hC8, b8, q8⟩
        refine ⟨_, rfl, ?_⟩
        refine wk_nil ?_
        refine wk_blockEnd ?_
        refine wk_reg (id := 11) ?_
        refine wk_add rfl rfl rfl ?_
        refine wk_move rfl rfl ?_
        refine wk_nil ?_
        refine wk_loopNext (j + 1) (by omega) (congrArg (fun z => [some (Value.pointer (some ⟨b, o, none⟩)), some (Value.func (.func 57) #[] #[.pointer (some ⟨cb, 0, none⟩)]), some (Value.slice (some ⟨blk, 0, none⟩) l.length cap), some (Value.int .i64 ((l.length : Nat) : Int)), some (Value.int .i64 z)]) hnx) ⟨by omega, b7.trans b8, ?_, q8 _ _ _ _ (by decide) (by decide) hb7, hstep _ _ hk7 b8 q8⟩
        rw [htake, ← List.append_assoc]
        exact hC8
      · have hcm : cmp .lss (j : Int) ((l.length : Nat) : Int) = some false := by simp [cmp]; omega
        obtain rfl : j = l.length := by omega
        refine wk_seq ?_
        refine wk_reg (id := 8) ?_
        refine wk_cmp rfl rfl (by with_reducible assumption) rfl ?_
        refine wk_nil ?_
        refine wk_seq ?_
        refine wk_condF rfl ?_
        refine wk_loopExit ?_
        rw [List.take_length] at hC7
        exact wk_end0 (fun _ _ h => h) rfl ⟨rfl, hC7, b7, hk7⟩
    · intro e he w5 he5 hb5
      refine wk_extract rfl rfl rfl ?_
      refine wk_nil ?_
      refine wk_seq ?_
      refine wk_condT rfl ?_
      have heE : e ∈ ents.toList := by
        unfold leftOf at he
        rw [Array.toList_filter] at he
        exact (List.mem_filter.1 he).1
      obtain ⟨t, ht, hkey⟩ := List.mem_map.1 (hT.keys.mem_iff.1 (List.mem_map.2 ⟨e, heE, rfl⟩))
      obtain ⟨w6, hw6⟩ : ∃ w6, w6 = setBlock w5 w3.heap.size (.mapIter (some r) cl (seen.push e.born) cl) := ⟨_, rfl⟩
      rw [← hw6]
      have hR5 : w5.heap[w3.heap.size]? = some (.mapIter (some r) cl seen cl) := by rw [he5]; exact hR4
      obtain ⟨hR6, hO6⟩ := setBlock_at (o' := .mapIter (some r) cl (seen.push e.born) cl) hR5
      rw [← hw6] at hR6 hO6
      have g6 : w4.grownBy w6 (some w3.heap.size) := by
        refine ⟨?_, ?_, ?_, ?_, ?_⟩
        · rw [hw6]; exact hb5.os
        · rw [hw6]; exact hb5.tape
        · rw [hw6]; exact hb5.output
        · rw [hw6]; simp [setBlock, he5]
        · intro k _ hk2
          rw [hO6 k (fun e => hk2 (by rw [e])), he5]
      have hd6 : w6.heap[w1.heap.size]? = some (.cells #[d] 66 (0, 0)) := by rw [hO6 _ (by omega), he5]; exact hd4
      have ho6 : w6.ownsRow w.heap.size 64 1 d C.length C := ho4.kept g6 (.inr (Ne.symm (urow_ne ho4 hR4 (fun c h => by cases h))))
      have hb6 : Below w.heap.size w w6 := hb4.trans ⟨g6.os, g6.tape, g6.output, g6.size, fun k hk => g6.block k (by omega) (fun e => by cases e; omega)⟩
      clear hw6 hb5 he5 hR5 g6
      have hw6 : w.heap.size ≤ w6.heap.size := hb6.size
      refine wk_skip ?_
      refine wk_block ?_
      refine wk_seq ?_
      refine wk_reg (id := 4) ?_
      refine wk_entry (bm := r) rfl hR6 (hhB w6 (hb6.mono hb)) heE hst.2.1 rfl ?_
      refine wk_extract rfl rfl rfl ?_
      refine wk_assign rfl rfl ?_
      refine wk_nil ?_
      refine wk_reg (id := 5) ?_
      refine wk_load rfl Tryd.underlying66 rfl (by exact cell_blk (by with_reducible assumption) rfl) rfl ?_
      refine wk_move rfl rfl ?_
      refine wk_bsU (n := (t.1 : Int)) u32T rfl hkey.symm rfl ?_
      have hC32 : C.length < 4294967296 := by
        have h1 := hp4.length_eq
        have h2 := hT.keys.length_eq
        simp only [List.length_append, List.length_map] at h1 h2
        omega
      refine wk_appendU (q := (t.1 : Int)) u32T rfl rfl (ho6.alloc _) (u := e.key) (cell_blk (heap_alloc_new w6 _) rfl) hkey.symm hC32 (by simp; omega) rfl ?_
      intro d' w7 ho7 hg7
      have b67 : Below w.heap.size w6 w7 := ((below1 w6 _).mono hw6).trans (below_of_urow (ho6.alloc _) (by simp; omega) hg7)
      have hd7 : w7.heap[w1.heap.size]? = some (.cells #[d] 66 (0, 0)) := by
        have h1 := ((below1 w6 (.cells #[e.key] 64)).block _ (lt_of_some hd6)).trans hd6
        exact (hg7.block _ (lt_of_some h1) (urow_ne (ho6.alloc _) h1 (fun c h => by cases h))).trans h1
      have hR7 : w7.heap[w3.heap.size]? = some (.mapIter (some r) cl (seen.push e.born) cl) := by
        have h1 := ((below1 w6 (.cells #[e.key] 64)).block _ (lt_of_some hR6)).trans hR6
        exact (hg7.block _ (lt_of_some h1) (urow_ne (ho6.alloc _) h1 (fun c h => by cases h))).trans h1
      skip
      refine wk_store1 (i := Tryd.t66) rfl rfl hd7 (by kernel_rfl) rfl (urow_cells ho7).2 (urow_cells ho7).1 (show 0 < 1 by decide) ?_
      refine wk_nil ?_
      refine wk_blockEnd ?_
      refine wk_loopNext (seen.push e.born, C ++ [e.key]) ?_ rfl ⟨?_, ?_, ⟨d', setRow_heap _ _ _ _ _ _ hd7, ?_⟩, ?_⟩
      · simp only
        rw [left_push]
        have := (perm_take (left_born hst seen) he).length_eq
        simp only [List.length_cons] at this
        omega
      · exact below_row (hb6.trans b67) b1.size _
      · simp only
        rw [left_push, List.append_assoc, List.singleton_append, ← List.map_cons]
        exact (((perm_take (left_born hst seen) he).map (·.key)).symm.append_left C).trans hp4
      · simp only [List.length_append, List.length_singleton]
        exact ho7.kept (row := some w1.heap.size) ⟨rfl, rfl, rfl, by simp [World.setRow], fun k _ hk => setRow_other _ _ _ _ (fun e => hk (by rw [e]))⟩ (.inr (Ne.symm (urow_ne ho7 hd7 (fun c h => by cases h))))
      · exact (setRow_other _ _ _ _ (by omega)).trans hR7
theorem c_AppendEachK (w : World) (base b o : Nat) (d v : Value) (bs : List UInt8) (l : List (Nat × List UInt8)) (hown : Own w base 5 d bs) (hb : base ≤ w.heap.size) (hlt : b < base ∨ ∃ cc tt z, w.heap[b]? = some (.cells cc tt z) ∧ tt ≠ 5 ∧ tt ≠ 22)
    (hc : w.cell? ⟨b, o, none⟩ = some v) (hr : Rep w (fun b => base ≤ b) v (.tags l)) (hconf : Conf (.tags false) (.tags l)) (hs : bs.length + (l.flatMap wtag).length ≤ lim) :
    Calls Tryd.prog 24 #[.pointer (some ⟨b, o, none⟩), d] w fun e w' => ∃ d', e = .returned d' ∧ Own w' base 5 d' (bs ++ l.flatMap wtag) ∧ Below base w w' ∧ w'.heap[b]? = w.heap[b]? := by
  have hbs : b < w.heap.size := World.block_lt_of_cell? w ⟨b, o, none⟩ hc
  obtain ⟨l', hl', hso, hk, hn, _⟩ := hconf.tags_inv
  cases hl'
  refine calls_wk (args := [.pointer (some ⟨b, o, none⟩), d]) Tryd.func24 rfl rfl ?_
  refine wk_seq ?_
  refine wk_reg (id := 0) ?_
  refine wk_box rfl rfl ?_
  refine wk_assign rfl rfl ?_
  refine wk_nil ?_
  refine wk_seq ?_
  refine wk_reg (id := 1) ?_
  refine wk_move rfl rfl ?_
  have hone := (own_cells hown).1
  rw [hone]
  have hbel : Below w.heap.size w (w.alloc (.cells #[d] 22)) := below1 w _
  have hC : CellOwn (w.alloc (.cells #[d] 22)) base w.heap.size bs := ⟨hb, d, heap_alloc_new w _, hown.below hbel⟩
  have hc1 : (w.alloc (.cells #[d] 22)).cell? ⟨b, o, none⟩ = some v := (hbel.cell (p := ⟨b, o, none⟩) hbs).trans hc
  have hr1 := hr.keep (Keeps.of_below (hbel.mono hb))
  refine wk_makeFunc (vs := []) (us := [.pointer (some ⟨w.heap.size, 0, none⟩)]) rfl rfl rfl ?_
  have hlt1 : b < base ∨ ∃ cc tt z, (w.alloc (.cells #[d] 22)).heap[b]? = some (.cells cc tt z) ∧ tt ≠ 5 ∧ tt ≠ 22 := hlt.imp id (fun ⟨cc, tt, z, h1, h2, h3⟩ => ⟨cc, tt, z, (hbel.block b hbs).trans h1, h2, h3⟩)
  have key : Calls Tryd.prog 56 #[.pointer (some ⟨b, o, none⟩), .func (.func 57) #[] #[.pointer (some ⟨w.heap.size, 0, none⟩)]] (w.alloc (.cells #[d] 22)) fun e w' => e = .returned (.tuple #[]) ∧ CellOwn w' base w.heap.size (bs ++ l.flatMap wtag) ∧ Below base (w.alloc (.cells #[d] 22)) w' ∧ w'.heap[b]? = (w.alloc (.cells #[d] 22)).heap[b]? := by
    by_cases hl : l = []
    · subst hl
      refine (Each_none _ (fun x => base ≤ x) b o v _ hc1 hr1).mono ?_
      rintro e w' ⟨rfl, rfl⟩
      exact ⟨rfl, by simpa using hC, Below.refl _ _, rfl⟩
    · exact c_Each _ base w.heap.size b o v bs l hC (by simp; omega) hlt1 hc1 hr1 hso hk hn hl hs
  refine wk_call Tryd.call56 (vs := [.pointer (some ⟨b, o, none⟩), .func (.func 57) #[] #[.pointer (some ⟨w.heap.size, 0, none⟩)]]) rfl rfl (key.mono ?_)
  rintro e w' ⟨rfl, ⟨_, d', hd', hown'⟩, b', hk'⟩
  refine ⟨_, rfl, ?_⟩
  refine wk_nil ?_
  refine wk_seq ?_
  refine wk_reg (id := 2) ?_
  refine wk_load rfl Tryd.underlying22 rfl (by exact cell_blk (by with_reducible assumption) rfl) rfl ?_
  refine wk_assign rfl rfl ?_
  refine wk_nil ?_
  refine wk_ret r0 rfl rfl ⟨d', rfl, hown', (hbel.mono hb).trans b', hk'.trans (hbel.block b hbs)⟩
theorem c_AppendEach : TEContract Tryd.prog 5 24 false := by
  intro w base b o d v bs l hown hb hlt hc hr hconf hs
  refine (c_AppendEachK w base b o d v bs l hown hb (.inl hlt) hc hr hconf hs).mono ?_
  rintro e w' ⟨d', rfl, h1, h2, _⟩
  exact ⟨d', rfl, h1, h2⟩
end Go.Proofs.YtbcfmhgcpijfnaaDoor
