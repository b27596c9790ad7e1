/-
  StickyMemberMetadata.AppendTo.
-/
import Derived.Test.YthejiimocbfagaaStk3
import Derived.Test.YthejiimocbfagaaKbinX
set_option linter.unusedVariables false
set_option linter.unusedSimpArgs false
namespace Go.Proofs.Ythejiimocbfagaa
open Go Go.RowKit Go.Proofs.Eng
set_option maxRecDepth 20000
set_option maxHeartbeats 4000000
theorem flatLen {α β : Type} (f : α → List β) (M : Nat) : ∀ (l : List α), (∀ r ∈ l, (f r).length ≤ M) → (l.flatMap f).length ≤ l.length * M := by
  intro l
  induction l with
  | nil => intro _; simp
  | cons r l ih =>
    intro h
    have h1 := h r (by simp)
    have h2 := ih fun x hx => h x (by simp [hx])
    simp only [List.flatMap_cons, List.length_append, List.length_cons, Nat.succ_mul]
    omega
theorem flatBe (l : List Int) : (l.flatMap (be 4)).length = 4 * l.length := by
  induction l with
  | nil => rfl
  | cons r l ih => simp only [List.flatMap_cons, List.length_append, be_length, List.length_cons, ih]; omega
theorem ownB_len (r : ByteArray × List Int) (h1 : r.1.size ≤ 32767) (h2 : r.2.length ≤ 2000) : (ownB r).length ≤ 40773 := by
  have hss : r.1.data.toList.length = r.1.size := by rw [Array.length_toList]; rfl
  simp only [ownB, List.length_append, be_length, flatBe, hss]
  omega
theorem take_flat {α β : Type} (f : α → List β) (l : List α) {i : Nat} (hi : i < l.length) : (l.take (i + 1)).flatMap f = (l.take i).flatMap f ++ f l[i] := by
  rw [List.take_add_one, List.getElem?_eq_getElem hi, List.flatMap_append]
  simp
/-- Numbers written one by one. -/
theorem stk_append (w : World) (base b : Nat) (d v : Value) (bs : List UInt8) (l : List (ByteArray × List Int)) (g : Int) (hblk : w.heap[b]? = some (.cells #[v, .int .i32 g] 47 (0, 0))) (hbb : b < base) (hv : ORep w (fun q => base ≤ q) v l)
    (hown : Own w base 5 d bs) (hb : base ≤ w.heap.size) (hl : l.length ≤ 2000) (hp : ∀ r ∈ l, r.1.size ≤ 32767 ∧ r.2.length ≤ 2000) (hs : bs.length ≤ 4294967296) :
    Calls Try.prog 15 #[.pointer (some ⟨b, 0, none⟩), d] w fun e w' => ∃ d', e = .returned d' ∧ Own w' base 5 d' (bs ++ stkB l g) ∧ Below base w w' := by
  have hbl := lt_of_some hblk
  obtain ⟨vals, hL, hvals⟩ := hv
  obtain ⟨A, c, rfl, hlc, hnil, hat⟩ := id hL
  have hflat : ∀ i, ((l.take i).flatMap ownB).length ≤ 2000 * 40773 := fun i => by
    have h1 := flatLen ownB 40773 (l.take i) (fun r hr => ownB_len r (hp r (List.mem_of_mem_take hr)).1 (hp r (List.mem_of_mem_take hr)).2)
    have h2 : (l.take i).length ≤ 2000 := by rw [List.length_take]; omega
    exact Nat.le_trans h1 (Nat.mul_le_mul h2 (Nat.le_refl _))
  have hlim := lim_eq
  refine calls_wk (args := [.pointer (some ⟨b, 0, none⟩), d]) Try.func15 rfl rfl ?_
  refine wk_seq ?_
  refine wk_reg (id := 0) ?_
  refine wk_assign rfl rfl ?_
  refine wk_nil ?_
  refine wk_seq ?_
  refine wk_reg (id := 1) ?_
  refine wk_move rfl rfl ?_
  refine wk_move rfl rfl ?_
  refine wk_nilCheck rfl rfl ?_
  refine wk_field (f := 0) (i := Try.t45) rfl Try.underlying47 rfl (by kernel_rfl) (by decide) rfl ?_
  refine wk_load rfl Try.underlying45 rfl (by exact cell_blk (by with_reducible assumption) rfl) rfl ?_
  refine wk_slen rfl Try.underlying45 rfl ?_
  refine wk_call Try.call24 (vs := [d, .int .i64 (l.length : Int)]) rfl rfl ((c_AppendArrayLen w base d bs l.length false hown hb (by omega) (by simp only [wlen, be_length]; omega)).mono ?_)
  rintro e w1 ⟨d1, rfl, ho1, hb1⟩
  refine ⟨_, rfl, ?_⟩
  have hblk1 := (hb1.block b hbb).trans hblk
  simp only [wlen] at ho1
  refine wk_assign rfl rfl ?_
  refine wk_nil ?_
  refine wk_seq ?_
  refine wk_seq ?_
  refine wk_reg (id := 2) ?_
  refine wk_move rfl rfl ?_
  refine wk_nilCheck rfl rfl ?_
  refine wk_field (f := 0) (i := Try.t45) rfl Try.underlying47 rfl (by kernel_rfl) (by decide) rfl ?_
  refine wk_load rfl Try.underlying45 rfl (by exact cell_blk (by with_reducible assumption) rfl) rfl ?_
  refine wk_slen rfl Try.underlying45 rfl ?_
  refine wk_move rfl rfl ?_
  refine wk_nil ?_
  refine wk_loop (fun i : Nat × Value => [(0, .pointer (some ⟨b, 0, none⟩)), (1, i.2), (19, .slice A l.length c), (20, .int .i64 (l.length : Int)), (21, .int .i64 (i.1 : Int))])
    (fun i w' => i.1 ≤ l.length ∧ Own w' base 5 i.2 (bs ++ be 4 l.length ++ (l.take i.1).flatMap ownB) ∧ Below base w w') (fun i => l.length - i.1) (0, d1) rfl ⟨Nat.zero_le _, by simpa using ho1, hb1⟩ ?_
  rintro ⟨i, di⟩ w2 ⟨hi, hoi, hb2⟩
  simp only at hi hoi
  have hfi := hflat i
  by_cases hlt : i < l.length
  · have c2 : cmp .lss (i : Int) (l.length : Int) = some true := by simp [cmp, hlt]
    have hnx : IntKind.i64.wrap ((i : Int) + 1) = ((i + 1 : Nat) : Int) := i64w ((i : Int) + 1) (by omega) (by omega)
    obtain ⟨_, ab, ao, hA, hXb, hbl2, hcl⟩ := hat i hlt
    subst hA
    simp only [List.getElem?_eq_getElem hlt] at hcl
    have hcell : ∀ j u, [Value.string l[i].1, vals i][j]? = some u → w2.cell? ((⟨ab, ao + i * 2, none⟩ : Addr).add j) = some u := fun j u hj => by
      rw [add_addr]
      exact (World.cell?_of_block (a := ⟨ab, ao + i * 2 + j, none⟩) (hb2.block ab (by omega))).trans (hcl j u hj)
    have hvr := (hvals i _ (List.getElem?_eq_getElem hlt)).1
    obtain ⟨A2, c2', hvi, _, hnil2, hat2⟩ := id hvr
    rw [hvi] at hcell
    obtain ⟨hsz, hpl⟩ := hp l[i] (List.getElem_mem hlt)
    refine wk_seq ?_
    refine wk_reg (id := 3) ?_
    refine wk_cmp rfl rfl (by with_reducible assumption) rfl ?_
    refine wk_nil ?_
    refine wk_seq ?_
    refine wk_condT rfl ?_
    refine wk_skip ?_
    refine wk_seq ?_
    refine wk_block ?_
    refine wk_seq ?_
    refine wk_reg (id := 4) ?_
    refine wk_idx (i := Try.t49) rfl rfl Try.underlying45 (by kernel_rfl) hlt rfl ?_
    refine wk_loadA (i := Try.t49) rfl Try.underlying49 rfl (by kernel_rfl) (vs := [.string l[i].1, .slice A2 l[i].2.length c2']) rfl hcell rfl ?_
    refine wk_alloc (t := 49) (i := Try.t49) (by kernel_rfl) rfl rfl ?_
    refine wk_storeNew (i := Try.t49) (c' := #[.string l[i].1, .slice A2 l[i].2.length c2']) rfl rfl (by kernel_rfl) rfl rfl (one2 rfl rfl) ?_
    have hG := heap_alloc_new w2 (.cells #[.string l[i].1, .slice A2 l[i].2.length c2'] 49)
    have hbn := below1 w2 (.cells #[.string l[i].1, .slice A2 l[i].2.length c2'] 49)
    have hb3 : Below base w (w2.alloc (.cells #[.string l[i].1, .slice A2 l[i].2.length c2'] 49)) := hb2.trans (hbn.mono (Nat.le_trans hb hb2.size))
    generalize hw3 : w2.alloc (.cells #[.string l[i].1, .slice A2 l[i].2.length c2'] 49) = w3 at hG hbn hb3 ⊢
    have hgl := lt_of_some hG
    have ho3 : OwnB w3 (fun q => base ≤ q ∧ q ≠ w2.heap.size) 5 di (bs ++ be 4 l.length ++ (l.take i).flatMap ownB) := by
      have h1 := OwnC.of_own (hoi.below hbn)
      exact ⟨h1.1, fun q hq => ⟨h1.2 q hq, fun e => by have := (World.ownsRow.lt hoi q hq).2; omega⟩⟩
    have hX3 : ∀ q, w3.heap.size ≤ q → base ≤ q ∧ q ≠ w2.heap.size := fun q hq => ⟨by have := hb3.size; omega, by omega⟩
    refine wk_nil ?_
    refine wk_seq ?_
    refine wk_reg (id := 5) ?_
    refine wk_move rfl rfl ?_
    refine wk_field (f := 0) (i := Try.t9) rfl Try.underlying49 rfl (by kernel_rfl) (by decide) rfl ?_
    refine wk_load rfl Try.underlying9 rfl (by exact cell_blk (by with_reducible assumption) rfl) rfl ?_
    first
      | refine wk_load (v := .string l[i].1) rfl Try.underlying9 rfl (cell_blk hG rfl) rfl ?_
      | skip
    skip
    refine wk_call Try.call25 (vs := [di, .string l[i].1]) rfl rfl ((AppendString_in w3 base (fun q => base ≤ q ∧ q ≠ w2.heap.size) (fun q h => h.1) (by have := hb3.size; omega) di _ l[i].1 hX3 ho3 (by rw [List.length_append, List.length_append, be_length]; omega)).mono ?_)
    rintro e w4 ⟨d4, rfl, ho4o, hg4⟩
    refine ⟨_, rfl, ?_⟩
    have hG4 := (hg4.block _ hgl (fun h => h.2 rfl)).trans hG
    have ho4 : OwnB w4 (fun q => base ≤ q ∧ q ≠ w2.heap.size) 5 d4 (bs ++ be 4 l.length ++ (l.take i).flatMap ownB ++ (be 2 l[i].1.size ++ l[i].1.data.toList)) := by
      have h1 := OwnC.of_own ho4o
      exact ⟨h1.1, fun q hq => ⟨h1.2 q hq, fun e => own_ne ho4o hG4 (by decide) (by rw [hq, e])⟩⟩
    have hb4 := hb3.trans (hg4.below (fun k hk h => by have := h.1; omega) (by have := hb3.size; omega))
    refine wk_assign rfl rfl ?_
    refine wk_nil ?_
    refine wk_seq ?_
    refine wk_reg (id := 6) ?_
    refine wk_move rfl rfl ?_
    refine wk_field (f := 1) (i := Try.t40) rfl Try.underlying49 rfl (by kernel_rfl) (by decide) rfl ?_
    refine wk_load rfl Try.underlying40 rfl (by exact cell_blk (by with_reducible assumption) rfl) rfl ?_
    refine wk_slen rfl Try.underlying40 rfl ?_
    first
      | refine wk_load (v := .slice A2 l[i].2.length c2') rfl Try.underlying40 rfl (cell_blk hG4 rfl) rfl ?_
      | skip
    skip
    refine wk_call Try.call24 (vs := [d4, .int .i64 (l[i].2.length : Int)]) rfl rfl ((AppendArrayLen_in w4 (fun q => base ≤ q ∧ q ≠ w2.heap.size) d4 _ l[i].2.length (fun q h => hX3 q (Nat.le_trans hg4.size h)) ho4 (by
      have hss : l[i].1.data.toList.length = l[i].1.size := by rw [Array.length_toList]; rfl
      simp only [List.length_append, be_length, hss] at *; omega)).mono ?_)
    rintro e w5 ⟨d5, rfl, ho5, hg5⟩
    refine ⟨_, rfl, ?_⟩
    have hG5 := (hg5.block _ (lt_of_some hG4) (fun h => h.2 rfl)).trans hG4
    have hb5 := hb4.trans (hg5.below (fun k hk h => by have := h.1; omega) (by have := hb4.size; omega))
    have ho5' : Own w5 base 5 d5 (bs ++ be 4 l.length ++ (l.take i).flatMap ownB ++ (be 2 l[i].1.size ++ l[i].1.data.toList) ++ be 4 l[i].2.length) := ho5.to_own fun q h => h.1
    refine wk_assign rfl rfl ?_
    refine wk_nil ?_
    refine wk_seq ?_
    refine wk_reg (id := 7) ?_
    refine wk_field (f := 1) (i := Try.t40) rfl Try.underlying49 rfl (by kernel_rfl) (by decide) rfl ?_
    refine wk_load rfl Try.underlying40 rfl (by exact cell_blk (by with_reducible assumption) rfl) rfl ?_
    refine wk_slen rfl Try.underlying40 rfl ?_
    refine wk_move rfl rfl ?_
    refine wk_nil ?_
    first
      | refine wk_load (v := .slice A2 l[i].2.length c2') rfl Try.underlying40 rfl (cell_blk hG5 rfl) rfl ?_
      | skip
    skip
    refine wk_loop (fun j : Nat × Value => [(0, .pointer (some ⟨b, 0, none⟩)), (1, j.2), (19, .slice (some ⟨ab, ao, none⟩) l.length c), (20, .int .i64 (l.length : Int)), (21, .int .i64 (i : Int)), (35, .slice A2 l[i].2.length c2'), (36, .int .i64 (l[i].2.length : Int)), (37, .int .i64 (j.1 : Int))])
      (fun j w' => j.1 ≤ l[i].2.length ∧ Own w' base 5 j.2 (bs ++ be 4 l.length ++ (l.take i).flatMap ownB ++ (be 2 l[i].1.size ++ l[i].1.data.toList) ++ be 4 l[i].2.length ++ (l[i].2.take j.1).flatMap (be 4)) ∧ Below base w w') (fun j => l[i].2.length - j.1) (0, d5) rfl ⟨Nat.zero_le _, by simpa using ho5', hb5⟩ ?_
    rintro ⟨j, dj⟩ w6 ⟨hj, hoj, hb6⟩
    simp only at hj hoj
    have hfj := flatBe (l[i].2.take j)
    rw [List.length_take] at hfj
    by_cases hjlt : j < l[i].2.length
    · have c3 : cmp .lss (j : Int) (l[i].2.length : Int) = some true := by simp [cmp, hjlt]
      have hnj : IntKind.i64.wrap ((j : Int) + 1) = ((j + 1 : Nat) : Int) := i64w ((j : Int) + 1) (by omega) (by omega)
      obtain ⟨_, pb, po, hA2, hXp, hpl2, hpc⟩ := hat2 j hjlt
      subst hA2
      simp only [List.getElem?_eq_getElem hjlt] at hpc
      have hcellj : w6.cell? ⟨pb, po + j * 1, none⟩ = some (.int .i32 l[i].2[j]) := (World.cell?_of_block (a := ⟨pb, po + j * 1, none⟩) (hb6.block pb (by omega))).trans (by simpa using hpc 0 _ rfl)
      refine wk_seq ?_
      refine wk_reg (id := 8) ?_
      refine wk_cmp rfl rfl (by with_reducible assumption) rfl ?_
      refine wk_nil ?_
      refine wk_seq ?_
      refine wk_condT rfl ?_
      refine wk_skip ?_
      refine wk_seq ?_
      refine wk_block ?_
      refine wk_seq ?_
      refine wk_reg (id := 9) ?_
      refine wk_idx (i := Try.t21) rfl rfl Try.underlying40 (by kernel_rfl) hjlt rfl ?_
      refine wk_load (v := .int .i32 l[i].2[j]) rfl Try.underlying21 rfl hcellj rfl ?_
      refine wk_assign rfl rfl ?_
      refine wk_nil ?_
      refine wk_reg (id := 10) ?_
      refine wk_move rfl rfl ?_
      refine wk_move rfl rfl ?_
      refine wk_call Try.call26 (vs := [dj, .int .i32 l[i].2[j]]) rfl rfl ((AppendInt32_any w6 base dj _ l[i].2[j] hoj (by have := hb6.size; omega) (by
        have hss : l[i].1.data.toList.length = l[i].1.size := by rw [Array.length_toList]; rfl
        simp only [List.length_append, be_length, hss, hfj]; omega)).mono ?_)
      rintro e w7 ⟨d7, rfl, ho7, hb7⟩
      refine ⟨_, rfl, ?_⟩
      refine wk_assign rfl rfl ?_
      refine wk_nil ?_
      refine wk_blockEnd ?_
      refine wk_reg (id := 11) ?_
      refine wk_add rfl rfl rfl ?_
      refine wk_move rfl rfl ?_
      refine wk_nil ?_
      refine wk_loopNext (j + 1, d7) (by simp only; omega) (congrArg (fun z => [some (Value.pointer (some ⟨b, 0, none⟩)), some d7, some (Value.slice (some ⟨ab, ao, none⟩) l.length c), some (Value.int .i64 (l.length : Int)), some (Value.int .i64 (i : Int)), some (Value.slice (some ⟨pb, po, none⟩) l[i].2.length c2'), some (Value.int .i64 (l[i].2.length : Int)), some (Value.int .i64 z)]) hnj) ⟨by simp only; omega, ?_, hb6.trans hb7⟩
      simp only
      rw [take_flat (be 4) l[i].2 hjlt, ← List.append_assoc]
      exact ho7
    · have c3 : cmp .lss (j : Int) (l[i].2.length : Int) = some false := by simp [cmp]; omega
      refine wk_seq ?_
      refine wk_reg (id := 8) ?_
      refine wk_cmp rfl rfl (by with_reducible assumption) rfl ?_
      refine wk_nil ?_
      refine wk_seq ?_
      refine wk_condF rfl ?_
      refine wk_loopExit ?_
      skip
      refine wk_blockEnd ?_
      refine wk_reg (id := 12) ?_
      refine wk_add rfl rfl rfl ?_
      refine wk_move rfl rfl ?_
      refine wk_nil ?_
      refine wk_loopNext (i + 1, dj) (by simp only; omega) (congrArg (fun z => [some (Value.pointer (some ⟨b, 0, none⟩)), some dj, some (Value.slice (some ⟨ab, ao, none⟩) l.length c), some (Value.int .i64 (l.length : Int)), some (Value.int .i64 z)]) hnx) ⟨by simp only; omega, ?_, hb6⟩
      simp only
      rw [take_flat ownB l hlt, ownB]
      rw [List.take_of_length_le (l := l[i].2) (i := j) (by omega)] at hoj
      simpa only [List.append_assoc] using hoj
  · obtain rfl : i = l.length := by omega
    have c2 : cmp .lss ((l.length : Nat) : Int) (l.length : Int) = some false := by simp [cmp]
    have hblk2 := (hb2.block b hbb).trans hblk
    rw [List.take_length] at hoi hfi
    refine wk_seq ?_
    refine wk_reg (id := 3) ?_
    refine wk_cmp rfl rfl (by with_reducible assumption) rfl ?_
    refine wk_nil ?_
    refine wk_seq ?_
    refine wk_condF rfl ?_
    refine wk_loopExit ?_
    refine wk_seq ?_
    refine wk_seq ?_
    refine wk_reg (id := 13) ?_
    refine wk_move rfl rfl ?_
    refine wk_nilCheck rfl rfl ?_
    refine wk_field (f := 1) (i := Try.t21) rfl Try.underlying47 rfl (by kernel_rfl) (by decide) rfl ?_
    refine wk_load rfl Try.underlying21 rfl (by exact cell_blk (by with_reducible assumption) rfl) rfl ?_
    refine wk_cmp rfl rfl rfl rfl ?_
    refine wk_nil ?_
    first
      | refine wk_load (v := .int .i32 g) rfl Try.underlying21 rfl (cell_blk hblk2 rfl) rfl ?_
      | skip
    by_cases hg1 : g = -1
    · have hgb : (g != -1) = false := by simp [hg1]
      skip
      refine wk_condF (congrArg (fun b => some (Value.bool b)) hgb) ?_
      refine wk_skip ?_
      refine wk_seq ?_
      refine wk_reg (id := 15) ?_
      refine wk_move rfl rfl ?_
      refine wk_assign rfl rfl ?_
      refine wk_nil ?_
      refine wk_ret r0 rfl rfl ⟨di, rfl, ?_, hb2⟩
      rw [stkB, if_pos hg1, List.append_nil, ← List.append_assoc]
      exact hoi
    · have hgb : (g != -1) = true := by simp [hg1]
      skip
      refine wk_condT (congrArg (fun b => some (Value.bool b)) hgb) ?_
      refine wk_reg (id := 14) ?_
      refine wk_move rfl rfl ?_
      refine wk_move rfl rfl ?_
      refine wk_nilCheck rfl rfl ?_
      refine wk_field (f := 1) (i := Try.t21) rfl Try.underlying47 rfl (by kernel_rfl) (by decide) rfl ?_
      refine wk_load rfl Try.underlying21 rfl (by exact cell_blk (by with_reducible assumption) rfl) rfl ?_
      first
        | refine wk_load (v := .int .i32 g) rfl Try.underlying21 rfl (cell_blk hblk2 rfl) rfl ?_
        | skip
      skip
      refine wk_call Try.call26 (vs := [di, .int .i32 g]) rfl rfl ((AppendInt32_any w2 base di _ g hoi (by have := hb2.size; omega) (by simp only [List.length_append, be_length]; omega)).mono ?_)
      rintro e w7 ⟨d7, rfl, ho7, hb7⟩
      refine ⟨_, rfl, ?_⟩
      refine wk_assign rfl rfl ?_
      refine wk_nil ?_
      refine wk_seq ?_
      refine wk_reg (id := 15) ?_
      refine wk_move rfl rfl ?_
      refine wk_assign rfl rfl ?_
      refine wk_nil ?_
      refine wk_ret r0 rfl rfl ⟨d7, rfl, ?_, hb2.trans hb7⟩
      rw [stkB, if_neg hg1]
      simpa only [List.append_assoc] using ho7
end Go.Proofs.Ythejiimocbfagaa
