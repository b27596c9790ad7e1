/-
  spec.StickyBytes.
-/
import Derived.Test.YthejiimocbfagaaStk5
set_option linter.unusedVariables false
set_option linter.unusedSimpArgs false
namespace Go.Proofs.Ythejiimocbfagaa
open Go Go.RowKit Go.Proofs.Eng
set_option maxRecDepth 20000
set_option maxHeartbeats 4000000
theorem i32in (z : Int) (h : IntKind.i32.wrap z = z) : IntKind.i64.wrap z = z := by
  have h1 : -2147483648 ≤ z ∧ z < 2147483648 := by
    simp [IntKind.wrap, IntKind.bits, IntKind.signed] at h
    omega
  exact i64w z (by omega) (by omega)
theorem stb_any (w : World) (X : Nat → Prop) (v : Value) (l : List (ByteArray × List Int)) (g : Int) (hv : ORep w X v l) (hg32 : IntKind.i32.wrap g = g) (hl : l.length ≤ 2000) (hp : ∀ r ∈ l, r.1.size ≤ 32767 ∧ r.2.length ≤ 2000) :
    Calls Try.prog 9 #[.agg #[v, .int .i32 g]] w fun e w' => ∃ d, e = .returned d ∧ Own w' w.heap.size 5 d (stkB l g) ∧ Below w.heap.size w w' := by
  obtain ⟨vals, hL, hvals⟩ := hv
  obtain ⟨A, c, rfl, _⟩ := id hL
  have hflat : ∀ i, ((l.take i).flatMap ownB).length ≤ 2000 * 40773 := fun i => by
    have h1 := flatLen ownB 40773 (l.take i) (fun r hr => ownB_len r (hp r (List.mem_of_mem_take hr)).1 (hp r (List.mem_of_mem_take hr)).2)
    have h2 : (l.take i).length ≤ 2000 := by rw [List.length_take]; omega
    exact Nat.le_trans h1 (Nat.mul_le_mul h2 (Nat.le_refl _))
  have hlim := lim_eq
  have hM0 := heap_alloc_new w (.cells #[.slice A l.length c, .int .i32 g] 25)
  have hb0 := below1 w (.cells #[.slice A l.length c, .int .i32 g] 25)
  refine calls_wk (args := [.agg #[.slice A l.length c, .int .i32 g]]) Try.func9 rfl rfl ?_
  refine wk_seq ?_
  refine wk_reg (id := 0) ?_
  refine wk_box rfl rfl ?_
  refine wk_assign rfl rfl ?_
  refine wk_nil ?_
  refine wk_seq ?_
  refine wk_reg (id := 1) ?_
  refine wk_field (f := 0) (i := Try.t23) rfl Try.underlying25 rfl (by kernel_rfl) (by decide) rfl ?_
  refine wk_load rfl Try.underlying23 rfl (by exact cell_new rfl) rfl ?_
  refine wk_slen rfl Try.underlying23 rfl ?_
  first
    | refine wk_load (v := .slice A l.length c) rfl Try.underlying23 rfl (cell_blk hM0 rfl) rfl ?_
    | skip
  skip
  refine wk_call Try.call17 (vs := [.int .i64 (l.length : Int), .int .i64 ((4 : Nat) : Int)]) rfl rfl ((Fixed_any _ (l.length : Int) 4 (by decide)).mono ?_)
  rintro e w1 ⟨d1, rfl, ho1, hb1⟩
  refine ⟨_, rfl, ?_⟩
  have hM1 := (hb1.block _ (lt_of_some hM0)).trans hM0
  have hb01 := hb0.trans (hb1.mono hb0.size)
  have ho1' := own_mono ho1 hb0.size
  refine wk_assign rfl rfl ?_
  refine wk_nil ?_
  refine wk_seq ?_
  refine wk_seq ?_
  refine wk_reg (id := 2) ?_
  refine wk_field (f := 0) (i := Try.t23) rfl Try.underlying25 rfl (by kernel_rfl) (by decide) rfl ?_
  refine wk_load rfl Try.underlying23 rfl (by exact cell_blk (by with_reducible assumption) rfl) rfl ?_
  refine wk_slen rfl Try.underlying23 rfl ?_
  refine wk_move rfl rfl ?_
  refine wk_nil ?_
  first
    | refine wk_load (v := .slice A l.length c) rfl Try.underlying23 rfl (cell_blk hM1 rfl) rfl ?_
    | skip
  skip
  refine wk_loop (fun i : Nat × Value => [(1, .pointer (some ⟨w.heap.size, 0, none⟩)), (3, i.2), (13, .slice A l.length c), (14, .int .i64 (l.length : Int)), (15, .int .i64 (i.1 : Int))])
    (fun i w' => i.1 ≤ l.length ∧ Own w' w.heap.size 5 i.2 (be 4 l.length ++ (l.take i.1).flatMap ownB) ∧ w'.heap[w.heap.size]? = some (.cells #[.slice A l.length c, .int .i32 g] 25 (0, 0)) ∧ Below w.heap.size w w') (fun i => l.length - i.1) (0, d1) rfl ⟨Nat.zero_le _, by simpa using ho1', hM1, hb01⟩ ?_
  rintro ⟨i, di⟩ w2 ⟨hi, hoi, hM2, hb2⟩
  simp only at hi hoi
  have hfi := hflat i
  by_cases hlt : i < l.length
  · have c2 : cmp .lss (i : Int) (l.length : Int) = some true := by simp [cmp, hlt]
    have hnx : IntKind.i64.wrap ((i : Int) + 1) = ((i + 1 : Nat) : Int) := i64w ((i : Int) + 1) (by omega) (by omega)
    obtain ⟨_, b, o, rfl, hcell⟩ := ORep.at hL hb2 hlt
    have hvr := (hvals i _ (List.getElem?_eq_getElem hlt)).1
    have hz32 := (hvals i _ (List.getElem?_eq_getElem hlt)).2
    obtain ⟨hsz, hpl⟩ := hp l[i] (List.getElem_mem hlt)
    obtain ⟨A2, c2', hvi, _, _, hat2⟩ := id hvr
    rw [hvi] at hcell
    have hss : l[i].1.data.toList.length = l[i].1.size := by rw [Array.length_toList]; rfl
    refine wk_seq ?_
    refine wk_reg (id := 3) ?_
    refine wk_cmp rfl rfl (by with_reducible assumption) rfl ?_
    refine wk_nil ?_
    refine wk_seq ?_
    refine wk_condT rfl ?_
    refine wk_skip ?_
    refine wk_seq ?_
    refine wk_block ?_
    refine wk_seq ?_
    refine wk_reg (id := 4) ?_
    refine wk_idx (i := Try.t42) rfl rfl Try.underlying23 (by kernel_rfl) hlt rfl ?_
    refine wk_loadA (i := Try.t42) rfl Try.underlying42 rfl (by kernel_rfl) (vs := [.string l[i].1, .slice A2 l[i].2.length c2']) rfl hcell rfl ?_
    refine wk_alloc (t := 42) (i := Try.t42) (by kernel_rfl) rfl rfl ?_
    refine wk_storeNew (i := Try.t42) (c' := #[.string l[i].1, .slice A2 l[i].2.length c2']) rfl rfl (by kernel_rfl) rfl rfl (one2 rfl rfl) ?_
    have hG := heap_alloc_new w2 (.cells #[.string l[i].1, .slice A2 l[i].2.length c2'] 42)
    have hbn := below1 w2 (.cells #[.string l[i].1, .slice A2 l[i].2.length c2'] 42)
    generalize hw3 : w2.alloc (.cells #[.string l[i].1, .slice A2 l[i].2.length c2'] 42) = w3 at hG hbn ⊢
    have hM3 := (hbn.block _ (lt_of_some hM2)).trans hM2
    refine wk_nil ?_
    refine wk_seq ?_
    refine wk_draw (fun w' => w'.heap[w2.heap.size]? = some (.cells #[.string l[i].1, .slice A2 l[i].2.length c2'] 42 (0, 0)) ∧ w'.heap[w.heap.size]? = some (.cells #[.slice (some ⟨b, o, none⟩) l.length c, .int .i32 g] 25 (0, 0))) [(0, true), (1, true), (2, true), (3, true), (6, true), (7, true), (4, false), (5, false), (8, false), (9, true)] mixed (pqb (pql pq0)) (by kernel_rfl) (by kernel_rfl) (by kernel_rfl) (fun w5 h5 _ => by rw [h5]; exact ⟨hG, hM3⟩) ?_
    intro w5 h5 hb5
    have hG5 : w5.heap[w2.heap.size]? = some (.cells #[.string l[i].1, .slice A2 l[i].2.length c2'] 42 (0, 0)) := by rw [h5]; exact hG
    have hM5 : w5.heap[w.heap.size]? = some (.cells #[.slice (some ⟨b, o, none⟩) l.length c, .int .i32 g] 25 (0, 0)) := by rw [h5]; exact hM3
    have hb25 := hbn.trans (hb5.mono hbn.size)
    have hb05 := hb2.trans (hb25.mono hb2.size)
    have hoi5 := hoi.below hb25
    refine wd_move rfl rfl rfl ?_
    refine wd_field (f := 0) (ti := Try.t9) rfl rfl Try.underlying42 rfl (by kernel_rfl) (by decide) rfl ?_
    refine wd_load (v := .string l[i].1) rfl rfl Try.underlying9 rfl (fun w' hS => cell_blk hS.1 rfl) rfl ?_
    refine wd_strlen rfl rfl Try.underlying9 rfl ?_
    refine wd_field (f := 0) (ti := Try.t9) rfl rfl Try.underlying42 rfl (by kernel_rfl) (by decide) rfl ?_
    refine wd_load (v := .string l[i].1) rfl rfl Try.underlying9 rfl (fun w' hS => cell_blk hS.1 rfl) rfl ?_
    refine wd_call rfl Try.call17 (vs := [.int .i64 (l[i].1.size : Int), .int .i64 ((2 : Nat) : Int)]) rfl rfl ((Fixed_any w5 (l[i].1.size : Int) 2 (by decide)).mono ?_)
    rintro e w6 ⟨d6, rfl, ho6, hb6⟩
    have hG6 := (hb6.block _ (lt_of_some hG5)).trans hG5
    have hM6 := (hb6.block _ (lt_of_some hM5)).trans hM5
    have hb06 := hb05.trans (hb6.mono hb05.size)
    have hoi6 := hoi5.below hb6
    refine ⟨_, rfl, ⟨hG6, hM6⟩, ?_⟩
    refine wd_append (R := fun d' w' => Own w' w.heap.size 5 d' (be 4 l.length ++ (l.take i).flatMap ownB ++ be 2 l[i].1.size) ∧ w6.grownBy w' di.ownBlock) rfl rfl rfl (fun ρ oo hop hx hy => by
      obtain ⟨d', w', a1, a2, a3⟩ := run_append_rep byteT hop hx hy ((OwnC.of_own ho6).bytes (Y := fun _ => False) (fun _ _ _ h => h)) hoi6 hb06.size (by simp only [List.length_append, be_length]; omega)
      exact ⟨d', w', a1, ⟨grown_other hoi6 a3 hG6 (by decide), grown_other hoi6 a3 hM6 (by decide)⟩, a2, a3⟩) rfl ?_
    rintro d7 w7 ⟨ho7, hg7⟩
    have hG7 := grown_other hoi6 hg7 hG6 (by decide)
    have hM7 := grown_other hoi6 hg7 hM6 (by decide)
    have hb07 := hb06.trans (below_of_grown hoi6 hb06.size hg7)
    refine wd_append (R := fun d' w' => Own w' w.heap.size 5 d' (be 4 l.length ++ (l.take i).flatMap ownB ++ be 2 l[i].1.size ++ l[i].1.data.toList) ∧ w7.grownBy w' d7.ownBlock) rfl rfl rfl (fun ρ oo hop hx hy => by
      obtain ⟨d', w', a1, a2, a3⟩ := app_strG byteT Try.underlying9 ho7 hb07.size (by simp only [List.length_append, be_length, hss]; omega) ρ oo hop hx hy
      exact ⟨d', w', a1, ⟨grown_other ho7 a3 hG7 (by decide), grown_other ho7 a3 hM7 (by decide)⟩, a2, a3⟩) rfl ?_
    rintro d8 w8 ⟨ho8, hg8⟩
    have hG8 := grown_other ho7 hg8 hG7 (by decide)
    have hM8 := grown_other ho7 hg8 hM7 (by decide)
    have hb08 := hb07.trans (below_of_grown ho7 hb07.size hg8)
    refine wd_assign rfl rfl rfl ?_
    refine wd_done ?_
    refine wk_seq ?_
    refine wk_reg (id := 6) ?_
    refine wk_move rfl rfl ?_
    refine wk_field (f := 1) (i := Try.t40) rfl Try.underlying42 rfl (by kernel_rfl) (by decide) rfl ?_
    refine wk_load rfl Try.underlying40 rfl (by exact cell_blk (by with_reducible assumption) rfl) rfl ?_
    refine wk_slen rfl Try.underlying40 rfl ?_
    first
      | refine wk_load (v := .slice A2 l[i].2.length c2') rfl Try.underlying40 rfl (cell_blk hG8 rfl) rfl ?_
      | skip
    skip
    refine wk_call Try.call17 (vs := [.int .i64 (l[i].2.length : Int), .int .i64 ((4 : Nat) : Int)]) rfl rfl ((Fixed_any w8 (l[i].2.length : Int) 4 (by decide)).mono ?_)
    rintro e w9 ⟨d9, rfl, ho9, hb9⟩
    refine ⟨_, rfl, ?_⟩
    have hG9 := (hb9.block _ (lt_of_some hG8)).trans hG8
    have hM9 := (hb9.block _ (lt_of_some hM8)).trans hM8
    have hb09 := hb08.trans (hb9.mono hb08.size)
    have ho89 := ho8.below hb9
    skip
    refine wk_appR (R := fun d' w' => Own w' w.heap.size 5 d' (be 4 l.length ++ (l.take i).flatMap ownB ++ be 2 l[i].1.size ++ l[i].1.data.toList ++ be 4 l[i].2.length) ∧ w9.grownBy w' d8.ownBlock) rfl rfl (fun ρ oo hop hx hy =>
      run_append_rep byteT hop hx hy ((OwnC.of_own ho9).bytes (Y := fun _ => False) (fun _ _ _ h => h)) ho89 hb09.size (by simp only [List.length_append, be_length, hss]; omega)) rfl ?_
    rintro d10 w10 ⟨ho10, hg10⟩
    have hG10 := grown_other ho89 hg10 hG9 (by decide)
    have hM10 := grown_other ho89 hg10 hM9 (by decide)
    have hb010 := hb09.trans (below_of_grown ho89 hb09.size hg10)
    refine wk_assign rfl rfl ?_
    refine wk_nil ?_
    refine wk_seq ?_
    refine wk_reg (id := 7) ?_
    refine wk_field (f := 1) (i := Try.t40) rfl Try.underlying42 rfl (by kernel_rfl) (by decide) rfl ?_
    refine wk_load rfl Try.underlying40 rfl (by exact cell_blk (by with_reducible assumption) rfl) rfl ?_
    refine wk_slen rfl Try.underlying40 rfl ?_
    refine wk_move rfl rfl ?_
    refine wk_nil ?_
    first
      | refine wk_load (v := .slice A2 l[i].2.length c2') rfl Try.underlying40 rfl (cell_blk hG10 rfl) rfl ?_
      | skip
    skip
    refine wk_loop (fun j : Nat × Value => [(1, .pointer (some ⟨w.heap.size, 0, none⟩)), (3, j.2), (13, .slice (some ⟨b, o, none⟩) l.length c), (14, .int .i64 (l.length : Int)), (15, .int .i64 (i : Int)), (35, .slice A2 l[i].2.length c2'), (36, .int .i64 (l[i].2.length : Int)), (37, .int .i64 (j.1 : Int))])
      (fun j w' => j.1 ≤ l[i].2.length ∧ Own w' w.heap.size 5 j.2 (be 4 l.length ++ (l.take i).flatMap ownB ++ be 2 l[i].1.size ++ l[i].1.data.toList ++ be 4 l[i].2.length ++ (l[i].2.take j.1).flatMap (be 4)) ∧ w'.heap[w.heap.size]? = some (.cells #[.slice (some ⟨b, o, none⟩) l.length c, .int .i32 g] 25 (0, 0)) ∧ Below w.heap.size w w') (fun j => l[i].2.length - j.1) (0, d10) rfl ⟨Nat.zero_le _, by simpa using ho10, hM10, hb010⟩ ?_
    rintro ⟨j, dj⟩ w11 ⟨hj, hoj, hM11, hb11⟩
    simp only at hj hoj
    have hfj := flatBe (l[i].2.take j)
    rw [List.length_take] at hfj
    by_cases hjlt : j < l[i].2.length
    · have c3 : cmp .lss (j : Int) (l[i].2.length : Int) = some true := by simp [cmp, hjlt]
      have hnj : IntKind.i64.wrap ((j : Int) + 1) = ((j + 1 : Nat) : Int) := i64w ((j : Int) + 1) (by omega) (by omega)
      obtain ⟨_, pb, po, hA2, hXp, hpl2, hpc⟩ := hat2 j hjlt
      subst hA2
      simp only [List.getElem?_eq_getElem hjlt] at hpc
      have hcellj : w11.cell? ⟨pb, po + j * 1, none⟩ = some (.int .i32 l[i].2[j]) := (World.cell?_of_block (a := ⟨pb, po + j * 1, none⟩) (hb11.block pb hpl2)).trans (by simpa using hpc 0 _ rfl)
      have e64 := i32in l[i].2[j] (hz32 _ (List.getElem_mem hjlt))
      refine wk_seq ?_
      refine wk_reg (id := 8) ?_
      refine wk_cmp rfl rfl (by with_reducible assumption) rfl ?_
      refine wk_nil ?_
      refine wk_seq ?_
      refine wk_condT rfl ?_
      refine wk_skip ?_
      refine wk_seq ?_
      refine wk_block ?_
      refine wk_seq ?_
      refine wk_reg (id := 9) ?_
      refine wk_idx (i := Try.t21) rfl rfl Try.underlying40 (by kernel_rfl) hjlt rfl ?_
      refine wk_load (v := .int .i32 l[i].2[j]) rfl Try.underlying21 rfl hcellj rfl ?_
      refine wk_assign rfl rfl ?_
      refine wk_nil ?_
      refine wk_reg (id := 10) ?_
      refine wk_move rfl rfl ?_
      refine wk_move rfl rfl ?_
      refine wk_convV rfl Try.underlying21 Try.underlying2 (by with_reducible assumption) rfl ?_
      refine wk_call Try.call17 (vs := [.int .i64 l[i].2[j], .int .i64 ((4 : Nat) : Int)]) rfl rfl ((Fixed_any w11 l[i].2[j] 4 (by decide)).mono ?_)
      rintro e w12 ⟨d12, rfl, ho12, hb12⟩
      refine ⟨_, rfl, ?_⟩
      have hM12 := (hb12.block _ (lt_of_some hM11)).trans hM11
      have hb012 := hb11.trans (hb12.mono hb11.size)
      have hoj12 := hoj.below hb12
      skip
      refine wk_appR (R := fun d' w' => Own w' w.heap.size 5 d' (be 4 l.length ++ (l.take i).flatMap ownB ++ be 2 l[i].1.size ++ l[i].1.data.toList ++ be 4 l[i].2.length ++ (l[i].2.take j).flatMap (be 4) ++ be 4 l[i].2[j]) ∧ w12.grownBy w' dj.ownBlock) rfl rfl (fun ρ oo hop hx hy =>
        run_append_rep byteT hop hx hy ((OwnC.of_own ho12).bytes (Y := fun _ => False) (fun _ _ _ h => h)) hoj12 hb012.size (by simp only [List.length_append, be_length, hss, hfj]; omega)) rfl ?_
      rintro d13 w13 ⟨ho13, hg13⟩
      refine wk_assign rfl rfl ?_
      refine wk_nil ?_
      refine wk_blockEnd ?_
      refine wk_reg (id := 11) ?_
      refine wk_add rfl rfl rfl ?_
      refine wk_move rfl rfl ?_
      refine wk_nil ?_
      refine wk_loopNext (j + 1, d13) (by simp only; omega) (congrArg (fun z => [some (Value.pointer (some ⟨w.heap.size, 0, none⟩)), some d13, some (Value.slice (some ⟨b, o, none⟩) l.length c), some (Value.int .i64 (l.length : Int)), some (Value.int .i64 (i : Int)), some (Value.slice (some ⟨pb, po, none⟩) l[i].2.length c2'), some (Value.int .i64 (l[i].2.length : Int)), some (Value.int .i64 z)]) hnj)
        ⟨by simp only; omega, ?_, grown_other hoj12 hg13 hM12 (by decide), hb012.trans (below_of_grown hoj12 hb012.size hg13)⟩
      simp only
      rw [take_flat (be 4) l[i].2 hjlt, ← List.append_assoc]
      exact ho13
    · have c3 : cmp .lss (j : Int) (l[i].2.length : Int) = some false := by simp [cmp]; omega
      refine wk_seq ?_
      refine wk_reg (id := 8) ?_
      refine wk_cmp rfl rfl (by with_reducible assumption) rfl ?_
      refine wk_nil ?_
      refine wk_seq ?_
      refine wk_condF rfl ?_
      refine wk_loopExit ?_
      skip
      refine wk_blockEnd ?_
      refine wk_reg (id := 12) ?_
      refine wk_add rfl rfl rfl ?_
      refine wk_move rfl rfl ?_
      refine wk_nil ?_
      refine wk_loopNext (i + 1, dj) (by simp only; omega) (congrArg (fun z => [some (Value.pointer (some ⟨w.heap.size, 0, none⟩)), some dj, some (Value.slice (some ⟨b, o, none⟩) l.length c), some (Value.int .i64 (l.length : Int)), some (Value.int .i64 z)]) hnx) ⟨by simp only; omega, ?_, hM11, hb11⟩
      simp only
      rw [take_flat ownB l hlt, ownB]
      rw [List.take_of_length_le (l := l[i].2) (i := j) (by omega)] at hoj
      simpa only [List.append_assoc] using hoj
  · obtain rfl : i = l.length := by omega
    have c2 : cmp .lss ((l.length : Nat) : Int) (l.length : Int) = some false := by simp [cmp]
    rw [List.take_length] at hoi hfi
    have e64 := i32in g hg32
    refine wk_seq ?_
    refine wk_reg (id := 3) ?_
    refine wk_cmp rfl rfl (by with_reducible assumption) rfl ?_
    refine wk_nil ?_
    refine wk_seq ?_
    refine wk_condF rfl ?_
    refine wk_loopExit ?_
    refine wk_seq ?_
    refine wk_seq ?_
    refine wk_reg (id := 13) ?_
    refine wk_field (f := 1) (i := Try.t21) rfl Try.underlying25 rfl (by kernel_rfl) (by decide) rfl ?_
    refine wk_load rfl Try.underlying21 rfl (by exact cell_blk (by with_reducible assumption) rfl) rfl ?_
    refine wk_cmp rfl rfl rfl rfl ?_
    refine wk_nil ?_
    first
      | refine wk_load (v := .int .i32 g) rfl Try.underlying21 rfl (cell_blk hM2 rfl) rfl ?_
      | skip
    by_cases hg1 : g = -1
    · have hgb : (g != -1) = false := by simp [hg1]
      skip
      refine wk_condF (congrArg (fun b => some (Value.bool b)) hgb) ?_
      refine wk_skip ?_
      refine wk_seq ?_
      refine wk_reg (id := 15) ?_
      refine wk_move rfl rfl ?_
      refine wk_assign rfl rfl ?_
      refine wk_nil ?_
      refine wk_ret r0 rfl rfl ⟨di, rfl, ?_, hb2⟩
      rw [stkB, if_pos hg1, List.append_nil]
      exact hoi
    · have hgb : (g != -1) = true := by simp [hg1]
      skip
      refine wk_condT (congrArg (fun b => some (Value.bool b)) hgb) ?_
      refine wk_reg (id := 14) ?_
      refine wk_move rfl rfl ?_
      refine wk_field (f := 1) (i := Try.t21) rfl Try.underlying25 rfl (by kernel_rfl) (by decide) rfl ?_
      refine wk_load rfl Try.underlying21 rfl (by exact cell_blk (by with_reducible assumption) rfl) rfl ?_
      refine wk_convV rfl Try.underlying21 Try.underlying2 (by with_reducible assumption) rfl ?_
      first
        | refine wk_load (v := .int .i32 g) rfl Try.underlying21 rfl (cell_blk hM2 rfl) rfl ?_
        | skip
      skip
      refine wk_call Try.call17 (vs := [.int .i64 g, .int .i64 ((4 : Nat) : Int)]) rfl rfl ((Fixed_any w2 g 4 (by decide)).mono ?_)
      rintro e w12 ⟨d12, rfl, ho12, hb12⟩
      refine ⟨_, rfl, ?_⟩
      have hb012 := hb2.trans (hb12.mono hb2.size)
      have hoj12 := hoi.below hb12
      skip
      refine wk_appR (R := fun d' w' => Own w' w.heap.size 5 d' (be 4 l.length ++ l.flatMap ownB ++ be 4 g) ∧ w12.grownBy w' di.ownBlock) rfl rfl (fun ρ oo hop hx hy =>
        run_append_rep byteT hop hx hy ((OwnC.of_own ho12).bytes (Y := fun _ => False) (fun _ _ _ h => h)) hoj12 hb012.size (by simp only [List.length_append, be_length]; omega)) rfl ?_
      rintro d13 w13 ⟨ho13, hg13⟩
      refine wk_assign rfl rfl ?_
      refine wk_nil ?_
      refine wk_seq ?_
      refine wk_reg (id := 15) ?_
      refine wk_move rfl rfl ?_
      refine wk_assign rfl rfl ?_
      refine wk_nil ?_
      refine wk_ret r0 rfl rfl ⟨d13, rfl, ?_, hb012.trans (below_of_grown hoj12 hb012.size hg13)⟩
      rw [stkB, if_neg hg1, ← List.append_assoc]
      exact ho13
end Go.Proofs.Ythejiimocbfagaa
