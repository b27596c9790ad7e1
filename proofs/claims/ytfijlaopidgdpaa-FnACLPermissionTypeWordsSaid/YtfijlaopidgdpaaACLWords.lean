/-
  The words of ACLPermissionType are those that the documentation names.
-/
import Derived.Test.YtfijlaopidgdpaaNewFacts
namespace Go.Proofs.Eng
open Go Go.RowKit
theorem run_strsame {P : Program} {ρ : Operand → Value} {w : World} {o : Oper} {x y : Operand} {t t' : TypeId} {s : ByteArray} (ho : o.op = .binOp .neq t x y t') (hx : ρ x = .string s) (hy : ρ y = .string s) : (execOp ρ o).run P w = .ok (.value (.bool false)) w := by
  simp [execOp, ho, hx, hy, eqGuard, binOp, Op.stringOp]
section
variable {P : Program} {Q : Exit → Act → World → Prop} {nT : Nat} {σ : Sv} {k : List TD} {w : World} {all : List Oper} {S : World → Prop} {ol : List Oper} {ord : List (Nat × Bool)} {ty : TypeId} {ps : String} {af : Array Edge} {d i : Nat} {x y : Operand} {t t' : TypeId} {g : Option (Nat × Bool)}
theorem wd_strsame {s : ByteArray} (hg : guardIs σ all g = some true) (hx : evs σ x = some (.string s)) (hy : evs σ y = some (.string s)) (hd : Nat.blt d nT = true) (h : wkD P Q nT all S ((d, .bool false) :: σ) k ord ol w) :
    wkD P Q nT all S σ k ((i, true) :: ord) (⟨some d, .binOp .neq t x y t', ty, ps, af, g⟩ :: ol) w := wd_val hg (fun _ ha _ _ => run_strsame rfl (ha.ev hx) (ha.ev hy)) hd h
end
theorem cells_seg {w : World} {b o n : Nat} {c : Array Value} {t : TypeId} {z : Nat × Nat} {vs : List Value} (hb : w.heap[b]? = some (.cells c t z)) (hv : vs = (c.toList.drop o).take n) : ∀ j v, vs[j]? = some v → w.cell? ((⟨b, o, none⟩ : Addr).add j) = some v := by
  subst hv
  intro j v h
  rw [List.getElem?_take] at h
  split at h
  · rw [List.getElem?_drop] at h
    rw [add_addr, cell_of_row w b (o + j) c t z hb, ← Array.getElem?_toList, h]
  · cases h
end Go.Proofs.Eng
namespace Go.Proofs.Ytfijlaopidgdpaa
open Go Go.RowKit Go.Proofs.Eng
set_option maxRecDepth 20000
set_option maxHeartbeats 4000000

def sAny : ByteArray := ⟨#[65, 78, 89]⟩
def sDeny : ByteArray := ⟨#[68, 69, 78, 89]⟩
def sAllow : ByteArray := ⟨#[65, 76, 76, 79, 87]⟩
theorem c_Strs (w : World) : Calls Try.prog 30 #[] w fun e w' => e = .returned (.slice (some ⟨w.heap.size, 0, none⟩) 3 3) ∧ w'.heap[w.heap.size]? = some (.cells #[.string sAny, .string sDeny, .string sAllow] 9 (0, 0)) ∧ Below w.heap.size w w' := by
  refine calls_wk (args := []) Try.func30 rfl rfl ?_
  refine wk_seq ?_
  refine wk_reg (id := 0) ?_
  refine wk_assign rfl rfl ?_
  refine wk_nil ?_
  refine wk_seq ?_
  refine wk_reg (id := 1) ?_
  refine wk_buildS (e := 9) (vs := [(0, .string sAny), (1, .string sDeny), (2, .string sAllow)]) (cells := #[.string sAny, .string sDeny, .string sAllow]) (ie := Try.t9) (zv := .string ⟨#[]⟩) rfl Try.underlying39 (by kernel_rfl) rfl rfl rfl (by kernel_rfl) rfl ?_
  refine wk_assign rfl rfl ?_
  refine wk_nil ?_
  exact wk_ret r0 rfl rfl ⟨rfl, heap_alloc_last _ _, below1 _ _⟩
theorem c_Strs2 (w : World) : Calls Try.prog 17 #[] w fun e w' => e = .returned (.slice (some ⟨w.heap.size, 0, none⟩) 3 3) ∧ w'.heap[w.heap.size]? = some (.cells #[.string sAny, .string sDeny, .string sAllow] 9 (0, 0)) ∧ Below w.heap.size w w' := by
  refine calls_wk (args := []) Try.func17 rfl rfl ?_
  refine wk_seq ?_
  refine wk_reg (id := 0) ?_
  refine wk_assign rfl rfl ?_
  refine wk_nil ?_
  refine wk_seq ?_
  refine wk_reg (id := 1) ?_
  refine wk_call Try.call30 (vs := []) rfl rfl ((c_Strs w).mono ?_)
  rintro e w1 ⟨rfl, h1, hb1⟩
  refine ⟨_, rfl, ?_⟩
  refine wk_assign rfl rfl ?_
  refine wk_nil ?_
  exact wk_ret r0 rfl rfl ⟨rfl, h1, hb1⟩
theorem c_Names (w : World) : Calls Try.prog 19 #[] w fun e w' => e = .returned (.slice (some ⟨w.heap.size, 0, none⟩) 3 3) ∧ w'.heap[w.heap.size]? = some (.cells #[.int .i64 1, .string sAny, .int .i64 2, .string sDeny, .int .i64 3, .string sAllow] 58 (0, 0)) ∧ Below w.heap.size w w' := by
  refine calls_wk (args := []) Try.func19 rfl rfl ?_
  refine wk_seq ?_
  refine wk_reg (id := 0) ?_
  refine wk_assign rfl rfl ?_
  refine wk_nil ?_
  refine wk_seq ?_
  refine wk_reg (id := 1) ?_
  refine wk_build (vs := [(0, .int .i64 1), (1, .string sAny)]) (cells := #[.int .i64 1, .string sAny]) rfl (by kernel_rfl) rfl ?_
  refine wk_build (vs := [(0, .int .i64 2), (1, .string sDeny)]) (cells := #[.int .i64 2, .string sDeny]) rfl (by kernel_rfl) rfl ?_
  refine wk_build (vs := [(0, .int .i64 3), (1, .string sAllow)]) (cells := #[.int .i64 3, .string sAllow]) rfl (by kernel_rfl) rfl ?_
  refine wk_buildS (e := 58) (vs := [(0, .agg #[.int .i64 1, .string sAny]), (1, .agg #[.int .i64 2, .string sDeny]), (2, .agg #[.int .i64 3, .string sAllow])]) (cells := #[.int .i64 1, .string sAny, .int .i64 2, .string sDeny, .int .i64 3, .string sAllow]) (ie := Try.t58) (zv := .agg #[.int .i64 0, .string ⟨#[]⟩]) rfl Try.underlying42 (by kernel_rfl) rfl rfl rfl (by kernel_rfl) rfl ?_
  refine wk_assign rfl rfl ?_
  refine wk_nil ?_
  exact wk_ret r0 rfl rfl ⟨rfl, heap_alloc_last _ _, below1 _ _⟩
def words3 : List Value := [.string sAny, .string sDeny, .string sAllow]
theorem c_Words (w : World) (b : Nat) (hb : w.heap[b]? = some (.cells #[.int .i64 1, .string sAny, .int .i64 2, .string sDeny, .int .i64 3, .string sAllow] 58 (0, 0))) :
    Calls Try.prog 18 #[.slice (some ⟨b, 0, none⟩) 3 3] w fun e w' => ∃ d, e = .returned d ∧ w'.ownsRow w.heap.size 9 1 d 3 words3 ∧ Below w.heap.size w w' := by
  have hlt0 := lt_of_some hb
  refine calls_wk (args := [.slice (some ⟨b, 0, none⟩) 3 3]) Try.func18 rfl rfl ?_
  refine wk_seq ?_
  refine wk_reg (id := 0) ?_
  refine wk_assign rfl rfl ?_
  refine wk_nil ?_
  refine wk_seq ?_
  refine wk_reg (id := 1) ?_
  refine wk_assign rfl rfl ?_
  refine wk_nil ?_
  refine wk_seq ?_
  refine wk_seq ?_
  refine wk_reg (id := 2) ?_
  refine wk_move rfl rfl ?_
  refine wk_slen rfl Try.underlying42 rfl ?_
  refine wk_move rfl rfl ?_
  refine wk_nil ?_
  refine wk_loop (fun i : Nat × Value => [(3, i.2), (6, .slice (some ⟨b, 0, none⟩) 3 3), (7, .int .i64 3), (8, .int .i64 (i.1 : Int))])
    (fun i w' => i.1 ≤ 3 ∧ w'.ownsRow w.heap.size 9 1 i.2 i.1 (words3.take i.1) ∧ Below w.heap.size w w') (fun i => 3 - i.1) (0, .slice none 0 0) rfl ⟨Nat.zero_le _, World.ownsRow_nil _ _ _ _, Below.refl _ _⟩ ?_
  rintro ⟨i, d1⟩ w1 ⟨hi, hown, hbw⟩
  simp only at hi hown
  have hb1 := (hbw.block b hlt0).trans hb
  by_cases hlt : i < 3
  · have c2 : cmp .lss (i : Int) 3 = some true := by simp [cmp]; omega
    have hnx : IntKind.i64.wrap ((i : Int) + 1) = ((i + 1 : Nat) : Int) := i64w ((i : Int) + 1) (by omega) (by omega)
    obtain ⟨m, s, hseg, hw3⟩ : ∃ (m : Int) (s : ByteArray), [.int .i64 m, .string s] = ((#[.int .i64 1, .string sAny, .int .i64 2, .string sDeny, .int .i64 3, .string sAllow] : Array Value).toList.drop (0 + i * 2)).take 2 ∧ words3.take (i + 1) = words3.take i ++ [.string s] := by
      have h3 : i = 0 ∨ i = 1 ∨ i = 2 := by omega
      rcases h3 with rfl | rfl | rfl
      · exact ⟨1, sAny, rfl, rfl⟩
      · exact ⟨2, sDeny, rfl, rfl⟩
      · exact ⟨3, sAllow, rfl, rfl⟩
    refine wk_seq ?_
    refine wk_reg (id := 3) ?_
    refine wk_cmp rfl rfl (by with_reducible assumption) rfl ?_
    refine wk_nil ?_
    refine wk_seq ?_
    refine wk_condT rfl ?_
    refine wk_skip ?_
    refine wk_seq ?_
    refine wk_block ?_
    refine wk_seq ?_
    refine wk_reg (id := 4) ?_
    refine wk_idx (i := Try.t58) rfl rfl Try.underlying42 (by kernel_rfl) hlt rfl ?_
    refine wk_loadA (i := Try.t58) rfl Try.underlying58 rfl (by kernel_rfl) (vs := [.int .i64 m, .string s]) rfl (cells_seg hb1 hseg) rfl ?_
    refine wk_alloc (t := 58) (i := Try.t58) (by kernel_rfl) rfl rfl ?_
    refine wk_storeNew (i := Try.t58) rfl rfl (by kernel_rfl) rfl rfl (one2 rfl rfl) ?_
    have hG : (w1.alloc (.cells #[.int .i64 m, .string s] 58)).heap[w1.heap.size]? = some (.cells #[.int .i64 m, .string s] 58 (0, 0)) := heap_alloc_last _ _
    refine wk_nil ?_
    refine wk_reg (id := 5) ?_
    refine wk_move rfl rfl ?_
    refine wk_field (f := 1) (i := Try.t9) rfl Try.underlying58 rfl (by kernel_rfl) (by decide) rfl ?_
    refine wk_load rfl Try.underlying9 rfl (by exact cell_blk (by with_reducible assumption) rfl) rfl ?_
    have hbn := below1 w1 (.cells #[.int .i64 m, .string s] 58)
    have hb2 := hbw.trans (hbn.mono hbw.size)
    have hown2 : (w1.alloc (.cells #[.int .i64 m, .string s] 58)).ownsRow w.heap.size 9 1 d1 i (words3.take i) :=
      World.ownsRow.kept hown (row := none) ⟨hbn.os, hbn.tape, hbn.output, hbn.size, fun k hk _ => hbn.block k hk⟩ (by cases d1.ownBlock <;> simp)
    refine wk_buildS (e := 9) (vs := [(0, .string s)]) (cells := #[.string s]) (ie := Try.t9) (zv := .string ⟨#[]⟩) rfl Try.underlying39 (by kernel_rfl) rfl rfl rfl (by kernel_rfl) rfl ?_
    refine wk_appendR (R := fun d' w' => w'.ownsRow w.heap.size 9 1 d' (i + 1) (words3.take i ++ [.string s]) ∧ ((w1.alloc (.cells #[.int .i64 m, .string s] 58)).alloc (.cells #[.string s] 9)).grownBy w' d1.ownBlock) rfl rfl
      (fun ρ o ho hx hy => by
        obtain ⟨d', w', a1, a2, a3, _⟩ := app_struct Try.underlying39 (show Try.prog.info? 9 = some Try.t9 by kernel_rfl) rfl rfl rfl rfl (by decide) (by decide) hown2 hb2.size (by omega) (news := [.string s]) rfl rfl (by intro u hu; obtain rfl := List.mem_singleton.1 hu; rfl) ρ o ho hx hy
        exact ⟨d', w', a1, a2, a3⟩) rfl ?_
    rintro d2 w2 ⟨hown3, hg⟩
    have hb3 : Below w.heap.size w w2 := (hb2.trans ((below1 _ (.cells #[.string s] 9)).mono hb2.size)).grown hg (by have := hb2.size; simp; simp at this; omega) (fun k hk => (own_ge hown hk).1)
    refine wk_assign rfl rfl ?_
    refine wk_nil ?_
    refine wk_blockEnd ?_
    refine wk_reg (id := 6) ?_
    refine wk_add rfl rfl rfl ?_
    refine wk_move rfl rfl ?_
    refine wk_nil ?_
    refine wk_loopNext (i + 1, d2) (by simp only; omega) (congrArg (fun z => [some d2, some (Value.slice (some ⟨b, 0, none⟩) 3 3), some (Value.int .i64 3), some (Value.int .i64 z)]) hnx) ⟨by simp only; omega, ?_, hb3⟩
    rw [hw3]
    exact hown3
  · obtain rfl : i = 3 := by omega
    have c2 : cmp .lss ((3 : Nat) : Int) 3 = some false := rfl
    refine wk_seq ?_
    refine wk_reg (id := 3) ?_
    refine wk_cmp rfl rfl (by with_reducible assumption) rfl ?_
    refine wk_nil ?_
    refine wk_seq ?_
    refine wk_condF rfl ?_
    refine wk_loopExit ?_
    refine wk_seq ?_
    refine wk_reg (id := 7) ?_
    refine wk_move rfl rfl ?_
    refine wk_assign rfl rfl ?_
    refine wk_nil ?_
    exact wk_ret r0 rfl rfl ⟨d1, rfl, hown, hbw⟩
theorem c_same (w : World) (b g cap : Nat) (h1 : ∀ (i : Nat) (v : Value), words3[i]? = some v → w.cell? ⟨b, i, none⟩ = some v) (h2 : ∀ (i : Nat) (v : Value), words3[i]? = some v → w.cell? ⟨g, i, none⟩ = some v) (hbl : b < w.heap.size) (hgl : g < w.heap.size) :
    Calls Try.prog 16 #[.slice (some ⟨b, 0, none⟩) 3 3, .slice (some ⟨g, 0, none⟩) 3 cap] w fun e w' => e = .returned (.bool true) ∧ Below w.heap.size w w' := by
  have c0 : cmp .neq ((3 : Nat) : Int) ((3 : Nat) : Int) = some false := rfl
  refine calls_wk (args := [.slice (some ⟨b, 0, none⟩) 3 3, .slice (some ⟨g, 0, none⟩) 3 cap]) Try.func16 rfl rfl ?_
  refine wk_seq ?_
  refine wk_reg (id := 0) ?_
  refine wk_assign rfl rfl ?_
  refine wk_nil ?_
  refine wk_seq ?_
  refine wk_seq ?_
  refine wk_reg (id := 1) ?_
  refine wk_move rfl rfl ?_
  refine wk_slen rfl Try.underlying39 rfl ?_
  refine wk_move rfl rfl ?_
  refine wk_slen rfl Try.underlying39 rfl ?_
  refine wk_cmp rfl rfl (by with_reducible assumption) rfl ?_
  refine wk_nil ?_
  refine wk_condF rfl ?_
  refine wk_skip ?_
  refine wk_seq ?_
  refine wk_seq ?_
  refine wk_reg (id := 3) ?_
  refine wk_move rfl rfl ?_
  refine wk_slen rfl Try.underlying39 rfl ?_
  refine wk_move rfl rfl ?_
  refine wk_nil ?_
  refine wk_loop (fun i : Nat => [(0, .slice (some ⟨b, 0, none⟩) 3 3), (1, .slice (some ⟨g, 0, none⟩) 3 cap), (12, .int .i64 ((3 : Nat) : Int)), (13, .int .i64 (i : Int))]) (fun i w' => i ≤ 3 ∧ Below w.heap.size w w') (fun i => 3 - i) 0 rfl ⟨Nat.zero_le _, Below.refl _ _⟩ ?_
  rintro i w1 ⟨hi, hbw⟩
  by_cases hlt : i < 3
  · have c2 : cmp .lss (i : Int) ((3 : Nat) : Int) = some true := by simp [cmp]; omega
    have hnx : IntKind.i64.wrap ((i : Int) + 1) = ((i + 1 : Nat) : Int) := i64w ((i : Int) + 1) (by omega) (by omega)
    obtain ⟨s, hs⟩ : ∃ s : ByteArray, words3[i]? = some (.string s) := by
      have h3 : i = 0 ∨ i = 1 ∨ i = 2 := by omega
      rcases h3 with rfl | rfl | rfl
      · exact ⟨sAny, rfl⟩
      · exact ⟨sDeny, rfl⟩
      · exact ⟨sAllow, rfl⟩
    have k1 : ∀ w' : World, w'.heap = w1.heap → w'.cell? ⟨b, 0 + i * 1, none⟩ = some (Value.string s) := fun w' h => by
      rw [World.cell?_of_block (w := w) (by rw [h]; exact hbw.block b hbl), Nat.zero_add, Nat.mul_one]
      exact h1 i _ hs
    have k2 : ∀ w' : World, w'.heap = w1.heap → w'.cell? ⟨g, 0 + i * 1, none⟩ = some (Value.string s) := fun w' h => by
      rw [World.cell?_of_block (w := w) (by rw [h]; exact hbw.block g hgl), Nat.zero_add, Nat.mul_one]
      exact h2 i _ hs
    refine wk_seq ?_
    refine wk_reg (id := 4) ?_
    refine wk_cmp rfl rfl (by with_reducible assumption) rfl ?_
    refine wk_nil ?_
    refine wk_seq ?_
    refine wk_condT rfl ?_
    refine wk_skip ?_
    refine wk_seq ?_
    refine wk_block ?_
    refine wk_seq ?_
    refine wk_reg (id := 5) ?_
    refine wk_move rfl rfl ?_
    refine wk_assign rfl rfl ?_
    refine wk_nil ?_
    refine wk_seq ?_
    refine wk_draw (fun w' => w'.heap = w1.heap) [(0, true), (1, true), (2, true), (3, true), (4, true), (5, true), (6, true), (7, true), (8, true)] mixed (pqb (pql pq0)) (by kernel_rfl) (by kernel_rfl) (by kernel_rfl) (fun w5 h5 _ => h5) ?_
    intro w3 h3 hb3
    refine wd_move rfl rfl rfl ?_
    refine wd_move rfl rfl rfl ?_
    refine wd_idx (ti := Try.t9) rfl rfl rfl Try.underlying39 (by kernel_rfl) hlt rfl ?_
    refine wd_load (v := .string s) rfl rfl Try.underlying9 rfl k1 rfl ?_
    refine wd_move rfl rfl rfl ?_
    refine wd_move rfl rfl rfl ?_
    refine wd_idx (ti := Try.t9) rfl rfl rfl Try.underlying39 (by kernel_rfl) hlt rfl ?_
    refine wd_load (v := .string s) rfl rfl Try.underlying9 rfl k2 rfl ?_
    refine wd_strsame (s := s) rfl rfl rfl rfl ?_
    refine wd_done ?_
    refine wk_condF rfl ?_
    refine wk_skip ?_
    refine wk_blockEnd ?_
    refine wk_reg (id := 8) ?_
    refine wk_add rfl rfl rfl ?_
    refine wk_move rfl rfl ?_
    refine wk_nil ?_
    exact wk_loopNext (i + 1) (by omega) (congrArg (fun z => [some (Value.slice (some ⟨b, 0, none⟩) 3 3), some (Value.slice (some ⟨g, 0, none⟩) 3 cap), some (Value.int .i64 ((3 : Nat) : Int)), some (Value.int .i64 z)]) hnx) ⟨by omega, hbw.trans (hb3.mono hbw.size)⟩
  · obtain rfl : i = 3 := by omega
    have c2 : cmp .lss ((3 : Nat) : Int) ((3 : Nat) : Int) = some false := rfl
    refine wk_seq ?_
    refine wk_reg (id := 4) ?_
    refine wk_cmp rfl rfl (by with_reducible assumption) rfl ?_
    refine wk_nil ?_
    refine wk_seq ?_
    refine wk_condF rfl ?_
    refine wk_loopExit ?_
    refine wk_seq ?_
    refine wk_reg (id := 9) ?_
    refine wk_assign rfl rfl ?_
    refine wk_nil ?_
    exact wk_ret r0 rfl rfl ⟨rfl, hbw⟩
theorem walk_words (w : World) : Calls Try.prog 5 #[] w fun e w' => e = .returned (.bool true) ∧ Below w.heap.size w w' := by
  refine calls_wk (args := []) Try.func5 rfl rfl ?_
  refine wk_seq ?_
  refine wk_reg (id := 0) ?_
  refine wk_assign rfl rfl ?_
  refine wk_nil ?_
  refine wk_seq ?_
  refine wk_reg (id := 1) ?_
  refine wk_call Try.call17 (vs := []) rfl rfl ((c_Strs2 w).mono ?_)
  rintro e w1 ⟨rfl, h1, hb1⟩
  refine ⟨_, rfl, ?_⟩
  refine wk_call Try.call19 (vs := []) rfl rfl ((c_Names w1).mono ?_)
  rintro e w2 ⟨rfl, h2, hb2⟩
  refine ⟨_, rfl, ?_⟩
  refine wk_call Try.call18 (vs := [.slice (some ⟨w1.heap.size, 0, none⟩) 3 3]) rfl rfl ((c_Words w2 w1.heap.size h2).mono ?_)
  rintro e w3 ⟨d, rfl, hown, hb3⟩
  refine ⟨_, rfl, ?_⟩
  have h13 := (hb3.block _ (lt_of_some ((hb2.block _ (lt_of_some h1)).trans h1))).trans ((hb2.block _ (lt_of_some h1)).trans h1)
  obtain ⟨g, cap, cur, rfl, hg, hh, hcap, ht⟩ : ∃ g cap cur, d = .slice (some ⟨g, 0, none⟩) 3 cap ∧ w2.heap.size ≤ g ∧ w3.heap[g]? = some (.cells cur 9 (0, 0)) ∧ 3 ≤ cap ∧ cur.toList.take (3 * 1) = words3 := by
    rcases hown.2 with ⟨_, h0⟩ | ⟨g, cap, cur, h1, h2, h3, h4, _, _, h5⟩
    · cases h0
    · exact ⟨g, cap, cur, h1, h2, h3, h4, h5⟩
  have hb13 := hb1.trans ((hb2.trans (hb3.mono hb2.size)).mono hb1.size)
  refine wk_call Try.call16 (vs := [.slice (some ⟨w.heap.size, 0, none⟩) 3 3, .slice (some ⟨g, 0, none⟩) 3 cap]) rfl rfl ((c_same w3 w.heap.size g cap (fun i v hv => cell_blk h13 hv) (fun i v hv => cell_blk hh (by
    rw [← ht, List.getElem?_take] at hv
    split at hv
    · exact hv
    · cases hv)) (lt_of_some h13) (lt_of_some hh)).mono ?_)
  rintro e w4 ⟨rfl, hb4⟩
  refine ⟨_, rfl, ?_⟩
  refine wk_assign rfl rfl ?_
  refine wk_nil ?_
  exact wk_ret r0 rfl rfl ⟨rfl, hb13.trans (hb4.mono hb13.size)⟩
open Go.ChangeShapes Go.WideShapes Go.ChangeAt in
set_option maxRecDepth 100000 in
set_option linter.unusedVariables false in
theorem lifted_words (os : Os) (started : os.Started) (H : Type) (enc : TypeId × Value → H) :
    ReturnsInHanded {} Try.checked os 5 .any (Rows.fnACLPermissionTypeWordsSpec.pre6 enc Try.prog Try.f5 Rows.fnACLPermissionTypeWordsRow.domain false) (Rows.fnACLPermissionTypeWordsSpec.post enc Try.prog Try.f5 false true false false) := by
  refine returnsInHanded_of_change (C := Try.checked) (by kernel_rfl) started (by kernel_rfl) Try.func5
    (ChangeSpec.witness6 (enc := enc) (C := Try.checked) false ⟨#[], #[], []⟩ 8 (by kernel_rfl) (by kernel_rfl) (by kernel_rfl) (by kernel_rfl)) ?_
  intro W base args ds gs before hval0 hW hcnd _
  have hval : ∀ (j : Nat) t v, Try.f5.params[j]? = some t → args[j]? = some v → Value.okWide Try.prog W .any base t v := hval0
  have hW' := hW
  obtain ⟨p, q, hA0, hV, rfl, hfz, hnd⟩ := hW
  have hA : DataW.TrodAll enc Try.prog W 0 (fun _ => true) true Try.f5.params.toList args.toList ds p := hA0
  rw [Try.params5] at hA hval
  obtain ⟨rfl, rfl, rfl⟩ := trodAll_none hA
  obtain ⟨rfl, rfl⟩ := trodVars_none hV
  clear hA0 hval0
  simp only [List.append_nil] at hW'
  refine (walk_words W).mono fun e W' ⟨he, hg⟩ => ?_
  subst he
  exact ⟨_, rfl, post_of_below (pa := []) (pv := []) hW' (fun _ _ _ => (trodAll_cons_mk (shut_bool Try.underlying4 _) trodAll_mk0)) (fun sp _ => rfl) (fun _ _ => rfl) rfl
    hg (ok_one (by kernel_rfl) rfl (okWide_bool_mk Try.underlying4 _))⟩
theorem joined_words : joinedFacts Try.prog 5 Try.f5 Rows.fnACLPermissionTypeWordsSpec Rows.fnACLPermissionTypeWordsRow = true := by
  unfold joinedFacts
  iterate 4 refine and2 ?_ (by as_aux_lemma => kernel_rfl)
  refine and2 (and2 (and2 (and2 ?_ P_heard) P_enter) P_lifts) P_make
  refine and2 (and2 ?_ P_keys) (by as_aux_lemma => kernel_rfl)
  iterate 19 refine and2 ?_ (by as_aux_lemma => kernel_rfl)
  refine and2 (and2 ?_ P_laid) P_maps
  kernel_rfl
theorem holds_ACLPermissionTypeWords : Rows.FnACLPermissionTypeWordsSaid :=
  OpenClaim.holds_of_wide 5 Try.f5 rfl rfl rfl rfl rfl rfl rfl ⟨rfl, rfl, rfl, rfl, rfl⟩ rfl rfl rfl rfl rfl (by as_aux_lemma => kernel_rfl) Try.func5 joined_words
    (of_decide_eq_true (by as_aux_lemma => kernel_rfl)) (by unfold Func.isWrapper; first | (rw [if_pos (by decide +kernel)]; kernel_rfl) | (rw [if_neg (by decide +kernel)]; exact ⟨rfl, rfl⟩))
    (fun os started H enc _ => lifted_words os started H enc)
#print axioms holds_ACLPermissionTypeWords
end Go.Proofs.Ytfijlaopidgdpaa
