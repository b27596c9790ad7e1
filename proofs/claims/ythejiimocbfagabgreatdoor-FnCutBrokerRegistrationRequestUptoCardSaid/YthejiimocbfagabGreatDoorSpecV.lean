/-
  The reference: tags that nobody knows: the walk.
-/
import Derived.Test.YthejiimocbfagabGreatDoorSpecU
import Derived.Test.YthejiimocbfagabGreatDoorRK3
set_option linter.unusedVariables false
set_option linter.unusedSimpArgs false
namespace Go.Proofs.YthejiimocbfagabGreatDoor
open Go Go.RowKit Go.Proofs.Eng
set_option maxRecDepth 20000
set_option maxHeartbeats 8000000

def ustep (fs : List Fld) (out : List (Nat × List UInt8)) (t : Nat × List UInt8) : List (Nat × List UInt8) := if t.1 < sKnown fs then out else sIns t out
theorem UOut.urep {w w' : World} {X : Nat → Prop} {d : Value} {rs : List URow} (h : UOut w w' X d rs) (hb : Below w.heap.size w w') : URep w' (fun b => X b ∧ b < w.heap.size) d (rs.map (·.1)) := by
  refine ⟨fun i => match rs[i]? with | some r => r.2 | none => undef, ?_, fun i t ht => ?_⟩
  · have h1 := lies_of_own (X := fun b => X b ∧ b < w.heap.size) (rows := rs.map ucell) (by simpa using h.own) urows (by decide) (fun b _ h1 h2 => by omega)
    obtain ⟨A, c, e1, e2, e3, e5⟩ := h1
    simp only [List.length_map] at e1 e2 e3 e5
    refine ⟨A, c, by rw [e1, List.length_map], by rw [List.length_map]; exact e2, fun h => by rw [List.length_map]; exact e3 h, fun i hi => ?_⟩
    rw [List.length_map] at hi
    have h2 := e5 i hi
    have hr : rs[i]? = some rs[i] := List.getElem?_eq_getElem hi
    simp only [List.getElem?_map, hr, Option.map_some] at h2 ⊢
    exact h2
  · rw [List.getElem?_map, Option.map_eq_some_iff] at ht
    obtain ⟨r, hr, rfl⟩ := ht
    have hm := List.mem_of_getElem? hr
    simp only [hr]
    exact ⟨((h.rep r hm).keep (keeps_below hb (Nat.le_refl _))).mono (fun b _ hY => hY.1), h.key r hm⟩
theorem unknown_all : UnkC G32 := by
  intro w X v fs tv l hF htags hlen hU hG
  obtain ⟨vals, ⟨A, c, rfl, hc, hnil, hat⟩, hvals⟩ := hU
  have hkn := sKnown_le htags
  obtain ⟨n, hn⟩ : ∃ n : Nat, n = min l.length 32767 := ⟨_, rfl⟩
  have hnl : n ≤ l.length := by omega
  have hmin : (if (32767 : Int) < ((l.length : Nat) : Int) then (32767 : Int) else ((l.length : Nat) : Int)) = (n : Int) := by split <;> omega
  have htake : l.take n = l.take 32767 := by
    rw [hn]
    by_cases h : l.length ≤ 32767
    · rw [Nat.min_eq_left h, List.take_of_length_le (Nat.le_refl _), List.take_of_length_le h]
    · rw [Nat.min_eq_right (by omega)]
  refine calls_wk (args := [v, .slice A l.length c]) Tryz.func27 rfl rfl ?_
  refine wk_seq ?_
  refine wk_reg (id := 0) ?_
  refine wk_assign rfl rfl ?_
  refine wk_nil ?_
  refine wk_seq ?_
  refine wk_reg (id := 1) ?_
  refine wk_move rfl rfl ?_
  refine wk_call Tryz.call24 (vs := [v]) rfl rfl ((known_any w X _ fs hF htags hlen).mono ?_)
  rintro e w1 ⟨rfl, hb⟩
  refine ⟨_, rfl, ?_⟩
  refine wk_assign rfl rfl ?_
  refine wk_nil ?_
  refine wk_seq ?_
  refine wk_reg (id := 2) ?_
  refine wk_assign rfl rfl ?_
  refine wk_nil ?_
  refine wk_seq ?_
  refine wk_seq ?_
  refine wk_reg (id := 3) ?_
  refine wk_move rfl rfl ?_
  refine wk_move rfl rfl ?_
  refine wk_slen rfl Tryz.underlying24 rfl ?_
  refine wk_min rfl rfl rfl ?_
  refine wk_sliceH (m := n) (i := Tryz.t55) rfl (congrArg (fun z => some (Value.int .i64 z)) hmin) Tryz.underlying24 (by kernel_rfl) (by omega) rfl ?_
  have hn32 : n ≤ 32767 := by omega
  clear hmin hn
  refine wk_slen rfl Tryz.underlying24 rfl ?_
  refine wk_move rfl rfl ?_
  refine wk_nil ?_
  refine wk_loop (fun i : Nat × Value × List URow => [(5, .int .u32 (sKnown fs : Int)), (6, i.2.1), (17, .slice A n c), (18, .int .i64 (n : Int)), (19, .int .i64 (i.1 : Int))])
    (fun i w' => i.1 ≤ n ∧ UOut w w' X i.2.1 i.2.2 ∧ i.2.2.map (·.1) = (l.take i.1).foldl (ustep fs) [] ∧ i.2.2.length ≤ i.1 ∧ Below w.heap.size w w') (fun i => n - i.1) (0, .slice none 0 0, []) rfl
    ⟨Nat.zero_le _, ⟨World.ownsRow_nil _ _ _ _, fun r h => by simp at h, fun r h => by simp at h⟩, rfl, Nat.le_refl _, hb⟩ ?_
  rintro ⟨i, d, rs⟩ w2 ⟨hi, hu, hfold, hrl, hb2⟩
  simp only at hi hu hfold hrl
  have hrs32 : rs.length ≤ 32767 := by omega
  have hrs33 : rs.length < 4294967296 := by omega
  have hl1 : IntKind.i64.wrap (((rs.length + 1 : Nat) : Int) - 1) = ((rs.length : Nat) : Int) := by rw [i64w _ (by omega) (by omega)]; omega
  have hnx : IntKind.i64.wrap ((i : Int) + 1) = ((i + 1 : Nat) : Int) := i64w ((i : Int) + 1) (by omega) (by omega)
  by_cases hlt : i < n
  · have c1 : cmp .lss (i : Int) (n : Int) = some true := by simp [cmp, hlt]
    have hil : i < l.length := by omega
    obtain ⟨t, ht⟩ : ∃ t, l[i]? = some t := ⟨_, List.getElem?_eq_getElem hil⟩
    have hat' := hat i hil
    simp only [ht] at hat'
    obtain ⟨_, b, o, rfl, hXb, hbl, hcell⟩ := hat'
    obtain ⟨hvr, hk32⟩ := hvals i t ht
    have hcell2 : ∀ j u, [Value.int .u32 (t.1 : Int), vals i][j]? = some u → w2.cell? ((⟨b, o + i * 2, none⟩ : Addr).add j) = some u := fun j u hj => by
      rw [add_addr]
      exact (World.cell?_of_block (a := ⟨b, o + i * 2 + j, none⟩) (hb2.block b hbl)).trans (hcell j u hj)
    have hone : ∀ u ∈ [Value.int .u32 (t.1 : Int), vals i], u.oneCell' = true := by
      intro u hu'
      simp only [List.mem_cons, List.not_mem_nil, or_false] at hu'
      rcases hu' with rfl | rfl
      · rfl
      · exact hvr.one
    have hstep : (l.take (i + 1)).foldl (ustep fs) [] = ustep fs (rs.map (·.1)) t := by
      have : l.take (i + 1) = l.take i ++ [t] := by
        rw [List.take_succ_eq_append_getElem hil]
        rw [List.getElem?_eq_getElem hil] at ht
        cases ht
        rfl
      rw [this, List.foldl_append, hfold]
      rfl
    refine wk_seq ?_
    refine wk_reg (id := 4) ?_
    refine wk_cmp rfl rfl (by with_reducible assumption) rfl ?_
    refine wk_nil ?_
    refine wk_seq ?_
    refine wk_condT rfl ?_
    refine wk_skip ?_
    refine wk_seq ?_
    refine wk_block ?_
    refine wk_seq ?_
    refine wk_reg (id := 5) ?_
    refine wk_idx (i := Tryz.t55) rfl rfl Tryz.underlying24 (by kernel_rfl) hlt rfl ?_
    refine wk_loadA (i := Tryz.t55) rfl Tryz.underlying55 rfl (by kernel_rfl) (vs := [.int .u32 (t.1 : Int), vals i]) rfl hcell2 rfl ?_
    refine wk_alloc (t := 55) (i := Tryz.t55) (by kernel_rfl) rfl rfl ?_
    refine wk_storeNew (i := Tryz.t55) (c' := #[.int .u32 (t.1 : Int), vals i]) rfl rfl (by kernel_rfl) rfl rfl (by simpa using hone) ?_
    have hu3 := hu.below (below1 w2 (.cells #[.int .u32 (t.1 : Int), vals i] 55))
    have hT3 := heap_alloc_new w2 (.cells #[.int .u32 (t.1 : Int), vals i] 55)
    have hb3 := hb2.trans ((below1 w2 (.cells #[.int .u32 (t.1 : Int), vals i] 55)).mono hb2.size)
    have hw2 : w.heap.size ≤ w2.heap.size := hb2.size
    generalize hw3 : w2.alloc (.cells #[.int .u32 (t.1 : Int), vals i] 55) = w3 at hu3 hT3 hb3 ⊢
    clear hw3
    refine wk_nil ?_
    refine wk_seq ?_
    refine wk_reg (id := 6) ?_
    refine wk_assign rfl rfl ?_
    refine wk_nil ?_
    refine wk_seq ?_
    have hdT : ∀ k, d.ownBlock = some k → k < w2.heap.size := fun k hk => (hu.own.lt k hk).2
    refine wk_cut (fun j : Nat => [(5, .int .u32 (sKnown fs : Int)), (6, d), (8, .pointer (some ⟨w2.heap.size, 0, none⟩)), (9, .int .i64 (j : Int)), (17, .slice (some ⟨b, o, none⟩) n c), (18, .int .i64 (n : Int)), (19, .int .i64 (i : Int))])
      (fun j w' => j ≤ rs.length ∧ (∀ (q : Nat) (u : URow), q < j → rs[q]? = some u → u.1.1 < t.1) ∧ w'.heap = w3.heap ∧ Below w3.heap.size w3 w' ∧ (j = rs.length ∨ ∃ u, rs[j]? = some u ∧ ¬ u.1.1 < t.1)) ?_ ?_
    · refine wk_loop (fun j : Nat => [(5, .int .u32 (sKnown fs : Int)), (6, d), (8, .pointer (some ⟨w2.heap.size, 0, none⟩)), (9, .int .i64 (j : Int)), (17, .slice (some ⟨b, o, none⟩) n c), (18, .int .i64 (n : Int)), (19, .int .i64 (i : Int))])
        (fun j w' => j ≤ rs.length ∧ (∀ (q : Nat) (u : URow), q < j → rs[q]? = some u → u.1.1 < t.1) ∧ w'.heap = w3.heap ∧ Below w3.heap.size w3 w') (fun j => rs.length - j) 0 rfl ⟨Nat.zero_le _, fun q u h => by omega, rfl, Below.refl _ _⟩ ?_
      rintro j w4 ⟨hj, hbefore, hh4, hb34⟩
      have hu4 := hu3.below hb34
      have hT4 : w4.heap[w2.heap.size]? = some (.cells #[.int .u32 (t.1 : Int), vals i] 55 (0, 0)) := by rw [hh4]; exact hT3
      obtain ⟨Ad, cd, hdf⟩ := hu4.form
      have hnj : IntKind.i64.wrap ((j : Int) + 1) = ((j + 1 : Nat) : Int) := i64w ((j : Int) + 1) (by omega) (by omega)
      by_cases hjl : j < rs.length
      · have c26 : cmp .lss (j : Int) (rs.length : Int) = some true := by simp [cmp, hjl]
        obtain ⟨g, cap, sp, hd, hg, hcap, hcm, hblk, hspl⟩ := hu4.block (fun h => by rw [h] at hjl; simp at hjl)
        have hrj : rs[j]? = some rs[j] := List.getElem?_eq_getElem hjl
        have hkj : ∀ w' : World, w'.heap = w4.heap → w'.cell? ⟨g, 0 + j * Tryz.t55.size + 0, none⟩ = some (.int .u32 (rs[j].1.1 : Int)) := by
          intro w' h'
          have h1 := row_cells hblk urows (q := j) (r := ucell rs[j]) (by rw [List.getElem?_map, hrj]; rfl) 0 (.int .u32 (rs[j].1.1 : Int)) rfl
          rw [add_addr] at h1
          exact cell_heap h' h1
        have hkt : ∀ w' : World, w'.heap = w4.heap → w'.cell? ⟨w2.heap.size, 0 + 0, none⟩ = some (.int .u32 (t.1 : Int)) := fun w' h' => cell_heap h' (cell_blk hT4 rfl)
        subst hd
        refine wk_seq ?_
        refine wk_seq ?_
        refine wk_draw (fun w' => w'.heap = w4.heap) [(0, true), (1, true), (2, true), (3, true), (4, true), (5, true), (6, true), (7, true), (8, true), (9, true), (10, true), (11, true), (12, true), (13, true)] mixed (pql (pqj (pqb (pql pq0)))) (by kernel_rfl) (by kernel_rfl) (by kernel_rfl) (fun w5 h5 _ => h5) ?_
        intro w5 h5 hb5
        have h53 := h5.trans hh4
        have hb35 := hb34.trans (hb5.mono hb34.size)
        refine wd_move rfl rfl rfl ?_
        refine wd_move rfl rfl rfl ?_
        refine wd_slen rfl rfl Tryz.underlying24 rfl ?_
        refine wd_cmp rfl rfl rfl (by with_reducible assumption) rfl ?_
        refine wd_move rfl rfl rfl ?_
        refine wd_move rfl rfl rfl ?_
        refine wd_move rfl rfl rfl ?_
        refine wd_idx (ti := Tryz.t55) rfl rfl rfl Tryz.underlying24 (by kernel_rfl) hjl rfl ?_
        refine wd_field (f := 0) (ti := Tryz.t53) rfl rfl Tryz.underlying55 rfl (by kernel_rfl) (by decide) rfl ?_
        refine wd_load (v := .int .u32 (rs[j].1.1 : Int)) rfl rfl Tryz.underlying53 rfl hkj rfl ?_
        refine wd_field (f := 0) (ti := Tryz.t53) rfl rfl Tryz.underlying55 rfl (by kernel_rfl) (by decide) rfl ?_
        refine wd_load (v := .int .u32 (t.1 : Int)) rfl rfl Tryz.underlying53 rfl hkt rfl ?_
        by_cases hk : rs[j].1.1 < t.1
        · have c35 : cmp .lss (rs[j].1.1 : Int) (t.1 : Int) = some true := by simp [cmp, hk]
          refine wd_cmp rfl rfl rfl (by with_reducible assumption) rfl ?_
          refine wd_pick rfl rfl rfl rfl rfl ?_
          refine wd_done ?_
          skip
          refine wk_condT rfl ?_
          refine wk_skip ?_
          refine wk_block ?_
          refine wk_reg (id := 8) ?_
          refine wk_move rfl rfl ?_
          refine wk_add rfl rfl rfl ?_
          refine wk_assign rfl rfl ?_
          refine wk_nil ?_
          refine wk_blockEnd ?_
          refine wk_loopNext (j + 1) (by omega) (congrArg (fun z => [some (Value.int .u32 (sKnown fs : Int)), some (Value.slice (some ⟨g, 0, none⟩) rs.length cap), some (Value.pointer (some ⟨w2.heap.size, 0, none⟩)), some (Value.int .i64 z), some (Value.slice (some ⟨b, o, none⟩) n c), some (Value.int .i64 (n : Int)), some (Value.int .i64 (i : Int))]) hnj)
            ⟨by omega, fun q u hq hu' => ?_, h53, hb35⟩
          by_cases hqj : q = j
          · subst hqj
            rw [hrj] at hu'
            cases hu'
            exact hk
          · exact hbefore q u (by omega) hu'
        · have c35 : cmp .lss (rs[j].1.1 : Int) (t.1 : Int) = some false := by simp [cmp]; omega
          refine wd_cmp rfl rfl rfl (by with_reducible assumption) rfl ?_
          refine wd_pick rfl rfl rfl rfl rfl ?_
          refine wd_done ?_
          skip
          refine wk_condF rfl ?_
          refine wk_loopExit ?_
          exact wk_joinEnd j rfl ⟨hj, hbefore, h53, hb35, .inr ⟨_, hrj, hk⟩⟩
      · have c26 : cmp .lss (j : Int) (rs.length : Int) = some false := by simp [cmp]; omega
        subst hdf
        refine wk_seq ?_
        refine wk_seq ?_
        refine wk_draw (fun w' => w'.heap = w4.heap) [(0, true), (1, true), (2, true), (3, true), (4, true), (5, true), (6, true), (7, true), (8, true), (9, true), (10, true), (11, true), (12, true), (13, true)] mixed (pql (pqj (pqb (pql pq0)))) (by kernel_rfl) (by kernel_rfl) (by kernel_rfl) (fun w5 h5 _ => h5) ?_
        intro w5 h5 hb5
        have h53 := h5.trans hh4
        have hb35 := hb34.trans (hb5.mono hb34.size)
        refine wd_move rfl rfl rfl ?_
        refine wd_move rfl rfl rfl ?_
        refine wd_slen rfl rfl Tryz.underlying24 rfl ?_
        refine wd_cmp rfl rfl rfl (by with_reducible assumption) rfl ?_
        refine wd_move rfl rfl rfl ?_
        refine wd_skip rfl rfl ?_
        refine wd_skip rfl rfl ?_
        refine wd_skip rfl rfl ?_
        refine wd_skip rfl rfl ?_
        refine wd_skip rfl rfl ?_
        refine wd_skip rfl rfl ?_
        refine wd_skip rfl rfl ?_
        refine wd_skip rfl rfl ?_
        refine wd_pick rfl rfl rfl rfl rfl ?_
        refine wd_done ?_
        skip
        refine wk_condF rfl ?_
        refine wk_loopExit ?_
        exact wk_joinEnd j rfl ⟨hj, hbefore, h53, hb35, .inl (by omega)⟩
    · rintro j w4 ⟨hj, hbefore, hh4, hb34, hpos⟩
      have hu4 := hu3.below hb34
      have hT4 : w4.heap[w2.heap.size]? = some (.cells #[.int .u32 (t.1 : Int), vals i] 55 (0, 0)) := by rw [hh4]; exact hT3
      have hb4 : Below w.heap.size w w4 := hb3.trans (hb34.mono hb3.size)
      obtain ⟨Ad, cd, hdf⟩ := hu4.form
      have hkt : ∀ w' : World, w'.heap = w4.heap → w'.cell? ⟨w2.heap.size, 0 + 0, none⟩ = some (.int .u32 (t.1 : Int)) := fun w' h' => cell_heap h' (cell_blk hT4 rfl)
      obtain ⟨hend, hmid⟩ := insR_at (t, vals i) rs j hj hbefore
      refine wk_seq ?_
      refine wk_seq ?_
      refine wk_cut (fun bb : Bool => [(5, .int .u32 (sKnown fs : Int)), (6, d), (8, .pointer (some ⟨w2.heap.size, 0, none⟩)), (9, .int .i64 (j : Int)), (17, .slice (some ⟨b, o, none⟩) n c), (18, .int .i64 (n : Int)), (19, .int .i64 (i : Int)), (58, .bool bb)])
        (fun bb w' => w'.heap = w4.heap ∧ Below w4.heap.size w4 w' ∧ (bb = true → ustep fs (rs.map (·.1)) t = rs.map (·.1)) ∧ (bb = false → ¬ t.1 < sKnown fs ∧ insR (t, vals i) rs = rs.take j ++ (t, vals i) :: rs.drop j)) ?_ ?_
      · refine wk_draw (fun w' => w'.heap = w4.heap) [(0, true), (1, true), (2, true), (3, true), (4, true), (5, true), (6, true), (7, true), (8, true), (9, true), (10, true), (11, true), (12, true), (13, true), (14, true), (15, true), (16, true), (17, true), (18, true), (19, true)] mixed (pqj (pqb (pql pq0))) (by kernel_rfl) (by kernel_rfl) (by kernel_rfl) (fun w5 h5 _ => h5) ?_
        intro w5 h5 hb5
        by_cases hK : t.1 < sKnown fs
        · have c42 : cmp .lss (t.1 : Int) (sKnown fs : Int) = some true := by simp [cmp, hK]
          refine wd_field (f := 0) (ti := Tryz.t53) rfl rfl Tryz.underlying55 rfl (by kernel_rfl) (by decide) rfl ?_
          refine wd_load (v := .int .u32 (t.1 : Int)) rfl rfl Tryz.underlying53 rfl hkt rfl ?_
          refine wd_move rfl rfl rfl ?_
          refine wd_cmp rfl rfl rfl (by with_reducible assumption) rfl ?_
          refine wd_move rfl rfl rfl ?_
          refine wd_skip rfl rfl ?_
          refine wd_skip rfl rfl ?_
          refine wd_skip rfl rfl ?_
          refine wd_skip rfl rfl ?_
          refine wd_skip rfl rfl ?_
          refine wd_skip rfl rfl ?_
          refine wd_skip rfl rfl ?_
          refine wd_skip rfl rfl ?_
          refine wd_skip rfl rfl ?_
          refine wd_skip rfl rfl ?_
          refine wd_skip rfl rfl ?_
          refine wd_skip rfl rfl ?_
          refine wd_skip rfl rfl ?_
          refine wd_skip rfl rfl ?_
          refine wd_pick rfl rfl rfl rfl rfl ?_
          refine wd_done ?_
          exact wk_joinEnd true rfl ⟨h5, hb5, fun _ => by unfold ustep; rw [if_pos hK], fun h => by cases h⟩
        · have c42 : cmp .lss (t.1 : Int) (sKnown fs : Int) = some false := by simp [cmp]; omega
          by_cases hjl : j < rs.length
          · have c47 : cmp .lss (j : Int) (rs.length : Int) = some true := by simp [cmp, hjl]
            obtain ⟨g, cap, sp, hd, hg, hcap, hcm, hblk, hspl⟩ := hu4.block (fun h => by rw [h] at hjl; simp at hjl)
            have hrj : rs[j]? = some rs[j] := List.getElem?_eq_getElem hjl
            have hnk : ¬ rs[j].1.1 < t.1 := by
              rcases hpos with h | ⟨u, h, h'⟩
              · omega
              · rw [hrj] at h; cases h; exact h'
            have hkj : ∀ w' : World, w'.heap = w4.heap → w'.cell? ⟨g, 0 + j * Tryz.t55.size + 0, none⟩ = some (.int .u32 (rs[j].1.1 : Int)) := by
              intro w' h'
              have h1 := row_cells hblk urows (q := j) (r := ucell rs[j]) (by rw [List.getElem?_map, hrj]; rfl) 0 (.int .u32 (rs[j].1.1 : Int)) rfl
              rw [add_addr] at h1
              exact cell_heap h' h1
            subst hd
            have hins := hmid _ hrj hnk
            refine wd_field (f := 0) (ti := Tryz.t53) rfl rfl Tryz.underlying55 rfl (by kernel_rfl) (by decide) rfl ?_
            refine wd_load (v := .int .u32 (t.1 : Int)) rfl rfl Tryz.underlying53 rfl hkt rfl ?_
            refine wd_move rfl rfl rfl ?_
            refine wd_cmp rfl rfl rfl (by with_reducible assumption) rfl ?_
            refine wd_move rfl rfl rfl ?_
            refine wd_move rfl rfl rfl ?_
            refine wd_move rfl rfl rfl ?_
            refine wd_slen rfl rfl Tryz.underlying24 rfl ?_
            refine wd_cmp rfl rfl rfl (by with_reducible assumption) rfl ?_
            refine wd_move rfl rfl rfl ?_
            refine wd_move rfl rfl rfl ?_
            refine wd_move rfl rfl rfl ?_
            refine wd_idx (ti := Tryz.t55) rfl rfl rfl Tryz.underlying24 (by kernel_rfl) hjl rfl ?_
            refine wd_field (f := 0) (ti := Tryz.t53) rfl rfl Tryz.underlying55 rfl (by kernel_rfl) (by decide) rfl ?_
            refine wd_load (v := .int .u32 (rs[j].1.1 : Int)) rfl rfl Tryz.underlying53 rfl hkj rfl ?_
            refine wd_field (f := 0) (ti := Tryz.t53) rfl rfl Tryz.underlying55 rfl (by kernel_rfl) (by decide) rfl ?_
            refine wd_load (v := .int .u32 (t.1 : Int)) rfl rfl Tryz.underlying53 rfl hkt rfl ?_
            by_cases he : rs[j].1.1 = t.1
            · have c56 : cmp .eql (rs[j].1.1 : Int) (t.1 : Int) = some true := by simp [cmp, he]
              refine wd_cmp rfl rfl rfl (by with_reducible assumption) rfl ?_
              refine wd_pick rfl rfl rfl rfl rfl ?_
              refine wd_pick rfl rfl rfl rfl rfl ?_
              refine wd_done ?_
              refine wk_joinEnd true rfl ⟨h5, hb5, fun _ => ?_, fun h => by cases h⟩
              unfold ustep
              rw [if_neg hK, ← insR_fst (t, vals i) rs, hins, if_pos he]
            · have c56 : cmp .eql (rs[j].1.1 : Int) (t.1 : Int) = some false := by simp [cmp]; omega
              refine wd_cmp rfl rfl rfl (by with_reducible assumption) rfl ?_
              refine wd_pick rfl rfl rfl rfl rfl ?_
              refine wd_pick rfl rfl rfl rfl rfl ?_
              refine wd_done ?_
              exact wk_joinEnd false rfl ⟨h5, hb5, (fun h => by cases h), fun _ => ⟨hK, by rw [hins, if_neg he]⟩⟩
          · have c47 : cmp .lss (j : Int) (rs.length : Int) = some false := by simp [cmp]; omega
            subst hdf
            refine wd_field (f := 0) (ti := Tryz.t53) rfl rfl Tryz.underlying55 rfl (by kernel_rfl) (by decide) rfl ?_
            refine wd_load (v := .int .u32 (t.1 : Int)) rfl rfl Tryz.underlying53 rfl hkt rfl ?_
            refine wd_move rfl rfl rfl ?_
            refine wd_cmp rfl rfl rfl (by with_reducible assumption) rfl ?_
            refine wd_move rfl rfl rfl ?_
            refine wd_move rfl rfl rfl ?_
            refine wd_move rfl rfl rfl ?_
            refine wd_slen rfl rfl Tryz.underlying24 rfl ?_
            refine wd_cmp rfl rfl rfl (by with_reducible assumption) rfl ?_
            refine wd_move rfl rfl rfl ?_
            refine wd_skip rfl rfl ?_
            refine wd_skip rfl rfl ?_
            refine wd_skip rfl rfl ?_
            refine wd_skip rfl rfl ?_
            refine wd_skip rfl rfl ?_
            refine wd_skip rfl rfl ?_
            refine wd_skip rfl rfl ?_
            refine wd_skip rfl rfl ?_
            refine wd_pick rfl rfl rfl rfl rfl ?_
            refine wd_pick rfl rfl rfl rfl rfl ?_
            refine wd_done ?_
            exact wk_joinEnd false rfl ⟨h5, hb5, (fun h => by cases h), fun _ => ⟨hK, hend (by omega)⟩⟩
      · rintro bb w5 ⟨h5, hb5, hyes, hno⟩
        have hb05 : Below w.heap.size w w5 := hb4.trans (hb5.mono hb4.size)
        have hu5 := hu4.below hb5
        have hT5 : w5.heap[w2.heap.size]? = some (.cells #[.int .u32 (t.1 : Int), vals i] 55 (0, 0)) := by rw [h5]; exact hT4
        cases bb with
        | true =>
          skip
          refine wk_condT rfl ?_
          refine wk_exit ?_
          refine wk_reg (id := 16) ?_
          refine wk_add rfl rfl rfl ?_
          refine wk_move rfl rfl ?_
          refine wk_nil ?_
          refine wk_loopNext (i + 1, d, rs) (by simp only; omega) (congrArg (fun z => [some (Value.int .u32 (sKnown fs : Int)), some d, some (Value.slice (some ⟨b, o, none⟩) n c), some (Value.int .i64 (n : Int)), some (Value.int .i64 z)]) hnx) ⟨by simp only; omega, hu5, ?_, by simp only; omega, hb05⟩
          simp only
          rw [hstep, hyes rfl]
        | false =>
          obtain ⟨hK, hins⟩ := hno rfl
          skip
          refine wk_condF rfl ?_
          refine wk_skip ?_
          refine wk_seq ?_
          refine wk_reg (id := 10) ?_
          refine wk_move rfl rfl ?_
          refine wk_build0 (cells := (Tryz.t55.zero.getD undef).cells) (by kernel_rfl) rfl ?_
          refine wk_buildS (e := 55) (vs := [(0, .agg #[.int .u32 0, .slice none 0 0])]) (cells := #[.int .u32 0, .slice none 0 0]) (ie := Tryz.t55) (zv := .agg #[.int .u32 0, .slice none 0 0]) rfl Tryz.underlying24 (by kernel_rfl) rfl rfl rfl (by kernel_rfl) rfl ?_
          have hw5 : w.heap.size ≤ w5.heap.size := hb05.size
          refine wk_appS rfl rfl (app_struct (z := .agg #[.int .u32 0, .slice none 0 0]) (m := 2) (by' := 32) (i := Tryz.t55) (news := [.int .u32 0, .slice none 0 0]) Tryz.underlying24 (by kernel_rfl) rfl rfl rfl rfl (by decide) (by decide) hu5.own hw5 hrs33 rfl rfl (by
            intro u hu'
            simp only [List.mem_cons, List.not_mem_nil, or_false] at hu'
            rcases hu' with rfl | rfl <;> rfl)) rfl ?_
          rintro d6 w6 ⟨hown6, hg6, hblk6⟩
          have hu6 : UOut w w6 X d6 (rs ++ [((0, []), .slice none 0 0)]) := by
            refine ⟨?_, fun r hr => ?_, fun r hr => ?_⟩
            · rw [List.length_append, List.map_append, List.flatten_append]
              exact hown6
            · rcases List.mem_append.1 hr with hr | hr
              · exact hu.rep r hr
              · obtain rfl := List.mem_singleton.1 hr
                exact .inl ⟨⟨_, rfl⟩, rfl⟩
            · rcases List.mem_append.1 hr with hr | hr
              · exact hu.key r hr
              · obtain rfl := List.mem_singleton.1 hr
                decide
          have hnT : some w2.heap.size ≠ d.ownBlock := fun e => by have := hdT _ e.symm; omega
          have hT0 := ((below1 w5 (.cells #[.int .u32 0, .slice none 0 0] 55)).block _ (lt_of_some hT5)).trans hT5
          have hT6 : w6.heap[w2.heap.size]? = some (.cells #[.int .u32 (t.1 : Int), vals i] 55 (0, 0)) := (hg6.block _ (lt_of_some hT0) hnT).trans hT0
          have hT5l : w2.heap.size < w5.heap.size := lt_of_some hT5
          have hb06 : Below w.heap.size w w6 := by
            refine hb05.trans ⟨hg6.os, hg6.tape, hg6.output, by have := hg6.size; simp at this; omega, fun k hk => ?_⟩
            exact (hg6.block k (by simp; omega) (fun e => by have := (hu5.own.lt k e.symm).1; omega)).trans (Below.heap_alloc w5 _ k (by omega))
          obtain ⟨g, cap, sp, hd6, hg, hcap, hcm, hblk, hspl⟩ := hu6.block (by simp)
          have hgT : g ≠ w2.heap.size := by
            intro e
            rw [hd6] at hblk6
            rcases hblk6 with h | h
            · exact hnT (by rw [← e]; exact h)
            · have h2 : some g = some (w5.heap.size + 1) := h
              simp only [Option.some.injEq] at h2
              omega
          have hlen1 : (rs ++ [(((0, []), .slice none 0 0) : URow)]).length = rs.length + 1 := by simp
          rw [hlen1] at hd6 hcap
          subst hd6
          rw [List.map_append] at hblk hspl
          refine wk_assign rfl rfl ?_
          refine wk_nil ?_
          refine wk_seq ?_
          refine wk_seq ?_
          refine wk_reg (id := 11) ?_
          refine wk_move rfl rfl ?_
          refine wk_slen rfl Tryz.underlying24 rfl ?_
          refine wk_subV rfl rfl (by with_reducible assumption) rfl ?_
          refine wk_assign rfl rfl ?_
          refine wk_nil ?_
          have hQl : (rs.map ucell).length = rs.length := List.length_map _
          refine wk_loop (fun k : Nat => [(5, .int .u32 (sKnown fs : Int)), (6, .slice (some ⟨g, 0, none⟩) (rs.length + 1) cap), (8, .pointer (some ⟨w2.heap.size, 0, none⟩)), (9, .int .i64 (j : Int)), (10, .int .i64 (k : Int)), (17, .slice (some ⟨b, o, none⟩) n c), (18, .int .i64 (n : Int)), (19, .int .i64 (i : Int))])
            (fun k w' => j ≤ k ∧ k ≤ rs.length ∧ w'.heap[g]? = some (.cells (((rs.map ucell ++ [ucell ((0, []), .slice none 0 0)]).take (k + 1) ++ (rs.map ucell).drop k).flatten ++ sp).toArray 55 (0, 0)) ∧
              w'.heap[w2.heap.size]? = some (.cells #[.int .u32 (t.1 : Int), vals i] 55 (0, 0)) ∧ Below w.heap.size w w') (fun k => k - j) rs.length rfl ⟨hj, Nat.le_refl _, ?_, hT6, hb06⟩ ?_
          · rw [List.take_of_length_le (by simp), List.drop_of_length_le (by simp), List.append_nil]
            exact hblk
          rintro k w7 ⟨hjk, hkl, hblk7, hT7, hb7⟩
          have hrows : ∀ r ∈ (rs.map ucell ++ [ucell ((0, []), .slice none 0 0)]).take (k + 1) ++ (rs.map ucell).drop k, r.length = 2 := by
            intro r hr
            rcases List.mem_append.1 hr with hr | hr
            · rcases List.mem_append.1 (List.mem_of_mem_take hr) with hr | hr
              · exact urows r hr
              · obtain rfl := List.mem_singleton.1 hr
                rfl
            · exact urows r (List.mem_of_mem_drop hr)
          have hrl7 : ((rs.map ucell ++ [ucell ((0, []), .slice none 0 0)]).take (k + 1) ++ (rs.map ucell).drop k).length = rs.length + 1 := by simp; omega
          by_cases hk : j < k
          · have c68 : cmp .gtr (k : Int) (j : Int) = some true := by simp [cmp, hk]
            obtain ⟨k, rfl⟩ : ∃ k', k = k' + 1 := ⟨k - 1, by omega⟩
            have hk1 : IntKind.i64.wrap (((k + 1 : Nat) : Int) - 1) = (k : Int) := by rw [i64w _ (by omega) (by omega)]; omega
            have hQk : ((rs.map ucell ++ [ucell ((0, []), .slice none 0 0)]).take (k + 1 + 1) ++ (rs.map ucell).drop (k + 1))[k]? = some ((rs.map ucell)[k]'(by omega)) := by
              rw [List.getElem?_append_left (by simp; omega), List.getElem?_take_of_lt (by omega), List.getElem?_append_left (by omega), List.getElem?_eq_getElem]
            have hone2 : ∀ c' ∈ (rs.map ucell)[k]'(by omega), c'.oneCell' = true := by
              intro c' hc'
              rw [List.getElem_map] at hc'
              simp only [ucell, List.mem_cons, List.not_mem_nil, or_false] at hc'
              rcases hc' with rfl | rfl
              · rfl
              · exact (hu.rep _ (List.getElem_mem (by omega : k < rs.length))).one
            refine wk_seq ?_
            refine wk_seq ?_
            refine wk_reg (id := 12) ?_
            refine wk_move rfl rfl ?_
            refine wk_move rfl rfl ?_
            refine wk_cmp rfl rfl (by with_reducible assumption) rfl ?_
            refine wk_nil ?_
            refine wk_condT rfl ?_
            refine wk_skip ?_
            refine wk_seq ?_
            refine wk_block ?_
            refine wk_reg (id := 14) ?_
            refine wk_move rfl rfl ?_
            refine wk_move rfl rfl ?_
            refine wk_move rfl rfl ?_
            refine wk_move rfl rfl ?_
            refine wk_subV rfl rfl (by with_reducible assumption) rfl ?_
            refine wk_idx (i := Tryz.t55) rfl rfl Tryz.underlying24 (by kernel_rfl) (by omega : k < rs.length + 1) rfl ?_
            refine wk_loadA (i := Tryz.t55) rfl Tryz.underlying55 rfl (by kernel_rfl) (vs := (rs.map ucell)[k]'(by omega)) (by rw [hrows _ (List.mem_of_getElem? hQk)]; rfl) (row_cells hblk7 hrows hQk) rfl ?_
            refine wk_idx (i := Tryz.t55) rfl rfl Tryz.underlying24 (by kernel_rfl) (by omega : k + 1 < rs.length + 1) rfl ?_
            refine wk_storeAt (m := 2) (i := Tryz.t55) (q := k + 1) rfl rfl hblk7 hrows (by omega) (hrows _ (List.mem_of_getElem? hQk)) (by kernel_rfl) rfl hone2 ?_
            have hset : ((rs.map ucell ++ [ucell ((0, []), .slice none 0 0)]).take (k + 1 + 1) ++ (rs.map ucell).drop (k + 1)).set (k + 1) ((rs.map ucell)[k]'(by omega)) = (rs.map ucell ++ [ucell ((0, []), .slice none 0 0)]).take (k + 1) ++ (rs.map ucell).drop k := by
              rw [set_shift (rs.map ucell) _ _ (k + 1) (by omega), shift_next (rs.map ucell) (ucell ((0, []), .slice none 0 0)) k (by omega)]
            rw [hset]
            have hblk8 := setRow_heap w7 g _ (((rs.map ucell ++ [ucell ((0, []), .slice none 0 0)]).take (k + 1) ++ (rs.map ucell).drop k).flatten ++ sp).toArray _ _ hblk7
            have hT8 := (setRow_other w7 g w2.heap.size (((rs.map ucell ++ [ucell ((0, []), .slice none 0 0)]).take (k + 1) ++ (rs.map ucell).drop k).flatten ++ sp).toArray (Ne.symm hgT)).trans hT7
            refine wk_nil ?_
            refine wk_blockEnd ?_
            refine wk_reg (id := 13) ?_
            refine wk_move rfl rfl ?_
            refine wk_subV rfl rfl (by with_reducible assumption) rfl ?_
            refine wk_assign rfl rfl ?_
            refine wk_nil ?_
            refine wk_loopNext k (by omega) rfl ⟨by omega, by omega, hblk8, hT8, below_row hb7 hg _⟩
          · have c68 : cmp .gtr (k : Int) (j : Int) = some false := by simp [cmp]; omega
            obtain rfl : j = k := by omega
            have hcT : ∀ q u, [Value.int .u32 (t.1 : Int), vals i][q]? = some u → w7.cell? ((⟨w2.heap.size, 0, none⟩ : Addr).add q) = some u := fun q u hq => by
              rw [add_addr, Nat.zero_add]
              exact cell_blk hT7 (by simpa using hq)
            refine wk_seq ?_
            refine wk_seq ?_
            refine wk_reg (id := 12) ?_
            refine wk_move rfl rfl ?_
            refine wk_move rfl rfl ?_
            refine wk_cmp rfl rfl (by with_reducible assumption) rfl ?_
            refine wk_nil ?_
            refine wk_condF rfl ?_
            refine wk_loopExit ?_
            refine wk_reg (id := 15) ?_
            refine wk_move rfl rfl ?_
            refine wk_move rfl rfl ?_
            refine wk_loadA (i := Tryz.t55) rfl Tryz.underlying55 rfl (by kernel_rfl) rfl (by with_reducible assumption) rfl ?_
            first
              | refine wk_loadA (i := Tryz.t55) rfl Tryz.underlying55 rfl (by kernel_rfl) (vs := [.int .u32 (t.1 : Int), vals i]) rfl hcT rfl ?_
              | skip
            refine wk_idx (i := Tryz.t55) rfl rfl Tryz.underlying24 (by kernel_rfl) (by omega : j < rs.length + 1) rfl ?_
            refine wk_storeAt (m := 2) (i := Tryz.t55) (q := j) (v := [.int .u32 (t.1 : Int), vals i]) rfl rfl hblk7 hrows (by omega) rfl (by kernel_rfl) rfl hone ?_
            have hmap : (rs.map ucell).take j ++ [Value.int .u32 (t.1 : Int), vals i] :: (rs.map ucell).drop j = (rs.take j ++ ((t, vals i) : URow) :: rs.drop j).map ucell := by
              rw [List.map_append, List.map_cons, List.map_take, List.map_drop]
              rfl
            rw [set_shift (rs.map ucell) _ _ j (by omega), hmap]
            have hblk8 := setRow_heap w7 g _ (((rs.take j ++ ((t, vals i) : URow) :: rs.drop j).map ucell).flatten ++ sp).toArray _ _ hblk7
            have hrl8 : (rs.take j ++ ((t, vals i) : URow) :: rs.drop j).length = rs.length + 1 := by simp; omega
            have hmem : ∀ r ∈ (rs.take j ++ ((t, vals i) : URow) :: rs.drop j), r ∈ rs ∨ r = (t, vals i) := by
              intro r hr
              rcases List.mem_append.1 hr with hr | hr
              · exact .inl (List.mem_of_mem_take hr)
              · rcases List.mem_cons.1 hr with hr | hr
                · exact .inr hr
                · exact .inl (List.mem_of_mem_drop hr)
            have hlenf : (((rs.take j ++ ((t, vals i) : URow) :: rs.drop j).map ucell).flatten ++ sp).length = cap * 2 := by
              rw [← hspl, List.length_append, List.length_append, flat_len5 _ urows, List.length_map, hrl8, ← List.map_append (l₂ := [(((0, []), .slice none 0 0) : URow)]), flat_len5 _ urows, List.length_map, hlen1]
            have hu8 := UOut.of_block (rs := rs.take j ++ ((t, vals i) : URow) :: rs.drop j) (X := X) hg (by rw [hrl8]; exact hcap) hcm hblk8 hlenf (fun r hr => by
              rcases hmem r hr with h | h
              · exact hu.rep r h
              · subst h; exact hvr) (fun r hr => by
              rcases hmem r hr with h | h
              · exact hu.key r h
              · subst h; exact hk32)
            rw [hrl8] at hu8
            refine wk_nil ?_
            refine wk_blockEnd ?_
            refine wk_reg (id := 16) ?_
            refine wk_add rfl rfl rfl ?_
            refine wk_move rfl rfl ?_
            refine wk_nil ?_
            refine wk_loopNext (i + 1, .slice (some ⟨g, 0, none⟩) (rs.length + 1) cap, rs.take j ++ (t, vals i) :: rs.drop j) (by simp only; omega) (congrArg (fun z => [some (Value.int .u32 (sKnown fs : Int)), some (Value.slice (some ⟨g, 0, none⟩) (rs.length + 1) cap), some (Value.slice (some ⟨b, o, none⟩) n c), some (Value.int .i64 (n : Int)), some (Value.int .i64 z)]) hnx)
              ⟨by simp only; omega, hu8, ?_, by simp only; rw [hrl8]; omega, below_row hb7 hg _⟩
            simp only
            rw [hstep]
            unfold ustep
            rw [if_neg hK, ← insR_fst (t, vals i) rs, hins]
  · have c1 : cmp .lss (i : Int) (n : Int) = some false := by simp [cmp]; omega
    obtain rfl : i = n := by omega
    refine wk_seq ?_
    refine wk_reg (id := 4) ?_
    refine wk_cmp rfl rfl (by with_reducible assumption) rfl ?_
    refine wk_nil ?_
    refine wk_seq ?_
    refine wk_condF rfl ?_
    refine wk_loopExit ?_
    refine wk_seq ?_
    refine wk_reg (id := 17) ?_
    refine wk_move rfl rfl ?_
    refine wk_assign rfl rfl ?_
    refine wk_nil ?_
    refine wk_ret r0 rfl rfl ⟨d, rfl, ?_, hb2⟩
    have hres := hu.urep hb2
    rw [hfold, htake] at hres
    exact hres
end Go.Proofs.YthejiimocbfagabGreatDoor
