/-
  The reference: a field; by the contract of a part.
-/
import Derived.Test.YthejiimocbfagabGreatDoorSpec4
set_option linter.unusedVariables false
set_option linter.unusedSimpArgs false
namespace Go.Proofs.YthejiimocbfagabGreatDoor
open Go Go.RowKit Go.Proofs.Eng
set_option maxRecDepth 20000
set_option maxHeartbeats 4000000

def FieldC (G : List (Nat × List UInt8) → Prop) (d : Nat) : Prop :=
  ∀ (w : World) (X : Nat → Prop) (f : Fld) (sv : Value) (vs : List Value) (t : Tree) (ver : Int) (flex : Bool), FRep w X sv f.sub → TRep w X vs t → fsB d f.sub = true → TOk G t → (sField (sPart d ver flex) ver flex f t).length ≤ lim →
    Calls Tryz.prog 22 #[.agg (fldV f sv).toArray, .int .i64 ver, .bool flex, .agg vs.toArray] w fun e w' => ∃ d', e = .returned d' ∧ Own w' w.heap.size 5 d' (sField (sPart d ver flex) ver flex f t) ∧ Below w.heap.size w w'

theorem flatMap_take_le {α : Type} (g : α → List UInt8) (l : List α) (i : Nat) (hi : i < l.length) : ((l.take i).flatMap g).length + (g l[i]).length ≤ (l.flatMap g).length := by
  have h1 : l.flatMap g = (l.take i).flatMap g ++ (g l[i] ++ (l.drop (i + 1)).flatMap g) := by
    conv => lhs; rw [← List.take_append_drop i l]
    rw [List.flatMap_append, List.drop_eq_getElem_cons hi, List.flatMap_cons]
  rw [h1]
  simp only [List.length_append]
  omega

theorem field_any {G : List (Nat × List UInt8) → Prop} {d : Nat} (hP : PartC G d) : FieldC G d := by
  intro w X f sv vs t ver flex hF hT hfs hok hlen
  have hT0 := hT
  obtain ⟨N, S, nl, L, U, v1, v2, v3, cells, hN, hS, hL, hU, hr⟩ := hT
  have hV := value_any hP
  refine calls_wk (args := [.agg (fldV f sv).toArray, .int .i64 ver, .bool flex, .agg #[.int .i64 N, v1, .bool nl, v2, v3]]) Tryz.func22 rfl rfl ?_
  have hwk : Below w.heap.size w ((w.alloc (.cells (Value.agg (fldV f sv).toArray).cells 46)).alloc (.cells (Value.agg #[.int .i64 N, v1, .bool nl, v2, v3]).cells 26)) := below2 _ _ _
  refine wk_seq ?_
  refine wk_reg (id := 0) ?_
  refine wk_box rfl rfl ?_
  refine wk_box rfl rfl ?_
  refine wk_assign rfl rfl ?_
  refine wk_nil ?_
  refine wk_seq ?_
  refine wk_reg (id := 1) ?_
  refine wk_loadA (i := Tryz.t46) rfl Tryz.underlying46 rfl (by kernel_rfl) rfl (by exact cells_new2) rfl ?_
  refine wk_move rfl rfl ?_
  refine wk_loadA (i := Tryz.t26) rfl Tryz.underlying26 rfl (by kernel_rfl) rfl (by exact cells_new) rfl ?_
  refine wk_call Tryz.call45 (vs := [.agg (fldV f sv).toArray, .int .i64 ver, .agg #[.int .i64 N, v1, .bool nl, v2, v3]]) rfl rfl ((null_any _ f sv ver X [.int .i64 N, v1, .bool nl, v2, v3] (.mk N S nl L U) (hT0.keep (keeps_below hwk (Nat.le_refl _)))).mono ?_)
  rintro e w1 ⟨rfl, hb1⟩
  refine ⟨_, rfl, ?_⟩
  have hF1 : w1.heap[w.heap.size]? = some (.cells (fldV f sv).toArray 46 (0, 0)) := (hb1.block _ (by simp; omega)).trans heap_prev
  have hT1 : w1.heap[(w.alloc (.cells (Value.agg (fldV f sv).toArray).cells 46)).heap.size]? = some (.cells #[.int .i64 N, v1, .bool nl, v2, v3] 26 (0, 0)) := (hb1.block _ (by simp)).trans (heap_alloc_last _ _)
  have hbw1 : Below w.heap.size w w1 := hwk.trans (hb1.mono (by simp; omega))
  generalize hnull : sNull f ver (.mk N S nl L U) = null
  by_cases k11 : f.kind = 11
  · have c11 : cmp .eql f.kind 11 = some true := by simp [cmp, k11]
    have hsf : sField (sPart d ver flex) ver flex f (.mk N S nl L U) = sCounted flex null (if null then [] else L.take 32767).length 4 ++ (if null then [] else L.take 32767).flatMap (sValue (sPart d ver flex) f.of f.sub false flex) := by
      simp only [sField, k11, if_true, hnull, Tree.L]
    rw [hsf] at hlen ⊢
    refine wk_assign rfl rfl ?_
    refine wk_nil ?_
    refine wk_seq ?_
    refine wk_seq ?_
    refine wk_reg (id := 2) ?_
    refine wk_field (f := 0) (i := Tryz.t3) rfl Tryz.underlying46 rfl (by kernel_rfl) (by decide) rfl ?_
    refine wk_load rfl Tryz.underlying3 rfl (by exact cell_blk (by with_reducible assumption) rfl) rfl ?_
    refine wk_cmp rfl rfl (by with_reducible assumption) rfl ?_
    refine wk_nil ?_
    refine wk_condT rfl ?_
    refine wk_seq ?_
    refine wk_reg (id := 3) ?_
    refine wk_field (f := 3) (i := Tryz.t23) rfl Tryz.underlying26 rfl (by kernel_rfl) (by decide) rfl ?_
    refine wk_load rfl Tryz.underlying23 rfl (by exact cell_blk (by with_reducible assumption) rfl) rfl ?_
    refine wk_call Tryz.call46 (vs := [v2]) rfl rfl ((things_any w1 (fun b => w.heap.size ≤ b) v2 L.length cells ((hL.mono (Y := fun b => w.heap.size ≤ b) (fun b hb h => absurd h (by omega))).keep (keeps_below hbw1 (Nat.le_refl _)))).mono ?_)
    rintro e w1' ⟨u, rfl, hu, rfl⟩
    refine ⟨u, rfl, ?_⟩
    refine wk_assign rfl rfl ?_
    refine wk_nil ?_
    refine wk_seq ?_
    refine wk_seq ?_
    refine wk_reg (id := 4) ?_
    refine wk_move rfl rfl ?_
    refine wk_nil ?_
    refine wk_join (fun i : Value × List Tree => [(1, .int .i64 ver), (2, .bool flex), (4, .pointer (some ⟨w.heap.size, 0, none⟩)), (9, .bool null), (10, i.1)])
      (fun i w' => w' = w1' ∧ i.2 = (if null then [] else L.take 32767) ∧ Lies w1' (fun b => w.heap.size ≤ b) i.1 i.2.length 5 cells) (b := null) (by rfl) ?_ ?_ ?_
    · rintro rfl
      refine wk_reg (id := 5) ?_
      refine wk_assign rfl rfl ?_
      refine wk_nil ?_
      exact wk_joinEnd (.slice none 0 0, []) rfl
        ⟨rfl, rfl, none, 0, rfl, Nat.le_refl _, fun _ => ⟨rfl, rfl⟩, fun i hi => by simp at hi⟩
    · rintro rfl
      refine wk_skip ?_
      exact wk_joinEnd (u, L.take 32767) rfl
        ⟨rfl, rfl, by simpa [List.length_take, Nat.min_comm] using hu⟩
    rintro ⟨v10, L'⟩ w2 ⟨rfl, hL', hl10⟩
    simp only at hL' hl10
    rw [← hL'] at hlen ⊢
    have hlL : L'.length ≤ 32767 := by rw [hL']; split <;> simp; omega
    have hsub : ∀ (i : Nat) (h : i < L'.length), L[i]? = some L'[i] := by
      intro i h
      cases null with
      | true => simp at hL'; subst hL'; simp at h
      | false =>
        simp only [Bool.false_eq_true, if_false] at hL'
        subst hL'
        rw [List.getElem_take]
        exact List.getElem?_eq_getElem (by rw [List.length_take] at h; omega)
    have hl10' := hl10
    obtain ⟨A, c, rfl, hc, hnil, hat⟩ := hl10
    refine wk_seq ?_
    refine wk_reg (id := 6) ?_
    refine wk_move rfl rfl ?_
    refine wk_move rfl rfl ?_
    refine wk_move rfl rfl ?_
    refine wk_slen rfl Tryz.underlying23 rfl ?_
    refine wk_call Tryz.call47 (vs := [.bool flex, .bool null, .int .i64 (L'.length : Int), .int .i64 ((4 : Nat) : Int)]) rfl rfl ((counted_any w2 flex null L'.length 4 (by omega) (by omega)).mono ?_)
    rintro e w3 ⟨d3, rfl, ho3, hb3⟩
    refine ⟨d3, rfl, ?_⟩
    have hF3 := (hb3.block _ (lt_of_some hF1)).trans hF1
    have hbw3 := hbw1.trans (hb3.mono hbw1.size)
    refine wk_assign rfl rfl ?_
    refine wk_nil ?_
    refine wk_seq ?_
    refine wk_seq ?_
    refine wk_reg (id := 7) ?_
    refine wk_move rfl rfl ?_
    refine wk_slen rfl Tryz.underlying23 rfl ?_
    refine wk_move rfl rfl ?_
    refine wk_nil ?_
    refine wk_loop (fun i : Nat × Value => [(1, .int .i64 ver), (2, .bool flex), (4, .pointer (some ⟨w.heap.size, 0, none⟩)), (10, .slice A L'.length c), (11, i.2), (30, .int .i64 (L'.length : Int)), (31, .int .i64 (i.1 : Int))])
      (fun i w' => Own w' w.heap.size 5 i.2 (sCounted flex null L'.length 4 ++ (L'.take i.1).flatMap (sValue (sPart d ver flex) f.of f.sub false flex)) ∧ w'.heap[w.heap.size]? = some (.cells (fldV f sv).toArray 46 (0, 0)) ∧ Below w.heap.size w w' ∧ i.1 ≤ L'.length)
      (fun i => L'.length - i.1) (0, d3) rfl ⟨by simpa using own_mono ho3 hbw1.size, hF3, hbw3, Nat.zero_le _⟩ ?_
    rintro ⟨i, d4⟩ w4 ⟨ho4, hF4, hb4, hi⟩
    simp only at ho4 hi
    by_cases hlt : i < L'.length
    · have c2 : cmp .lss (i : Int) (L'.length : Int) = some true := by simp [cmp, hlt]
      obtain ⟨hl5, b, o, rfl, hX, hbb, hcell⟩ := hat i hlt
      have hbb0 : b < w2.heap.size := hbb
      have hnx : IntKind.i64.wrap ((i : Int) + 1) = ((i + 1 : Nat) : Int) := i64w ((i : Int) + 1) (by omega) (by omega)
      refine wk_seq ?_
      refine wk_reg (id := 8) ?_
      refine wk_cmp rfl rfl (by with_reducible assumption) rfl ?_
      refine wk_nil ?_
      refine wk_seq ?_
      refine wk_condT rfl ?_
      refine wk_skip ?_
      refine wk_seq ?_
      refine wk_block ?_
      refine wk_seq ?_
      refine wk_reg (id := 9) ?_
      refine wk_move rfl rfl ?_
      refine wk_assign rfl rfl ?_
      refine wk_nil ?_
      have hlow : ∀ (w' : World), Below w.heap.size w w' → ∀ k u, (cells i)[k]? = some u → w'.cell? ((⟨b, o + i * 5, none⟩ : Addr).add k) = some u := by
        intro w' hw' k u hk
        have h1 := hcell k u hk
        have hbl : b < w.heap.size := by have : ¬ w.heap.size ≤ b := hX; omega
        rw [add_addr]
        exact (World.cell?_of_block ((hw'.block b hbl).trans (hbw1.block b hbl).symm)).trans h1
      have hone := flatMap_take_le (sValue (sPart d ver flex) f.of f.sub false flex) L' i hlt
      simp only [List.length_append] at hlen
      refine wk_draw (fun w' => w'.heap[w.heap.size]? = some (.cells (fldV f sv).toArray 46 (0, 0)) ∧ Below w.heap.size w w') [(0, true), (1, true), (2, true), (3, true), (4, true), (5, true), (6, true), (7, true), (8, true), (9, true), (10, true), (11, false), (12, false), (13, true)] mixed (pqb (pql pq0)) (by kernel_rfl) (by kernel_rfl) (by kernel_rfl)
        (fun w5 h5 hb5 => ⟨by rw [h5]; exact hF4, hb4.trans (hb5.mono hb4.size)⟩) ?_
      intro w5 h5 hb5
      have hbw5 := hb4.trans (hb5.mono hb4.size)
      refine wd_move rfl rfl rfl ?_
      refine wd_field (f := 6) (ti := Tryz.t3) rfl rfl Tryz.underlying46 rfl (by kernel_rfl) (by decide) rfl ?_
      refine wd_load rfl rfl Tryz.underlying3 rfl (fun _ hS => cell_blk hS.1 rfl) rfl ?_
      refine wd_field (f := 7) (ti := Tryz.t31) rfl rfl Tryz.underlying46 rfl (by kernel_rfl) (by decide) rfl ?_
      refine wd_load rfl rfl Tryz.underlying31 rfl (fun _ hS => cell_blk hS.1 rfl) rfl ?_
      refine wd_move rfl rfl rfl ?_
      refine wd_move rfl rfl rfl ?_
      refine wd_move rfl rfl rfl ?_
      refine wd_move rfl rfl rfl ?_
      refine wd_idx (ti := Tryz.t26) rfl rfl rfl Tryz.underlying23 (by kernel_rfl) hlt rfl ?_
      refine wd_loadA (ti := Tryz.t26) rfl rfl Tryz.underlying26 rfl (by kernel_rfl) (vs := cells i) (by rw [hl5]; rfl) (fun w' hS => hlow w' hS.2) rfl ?_
      skip
      have hrep : TRep w X (cells i) L'[i] := hr i _ (hsub i hlt)
      have hokc : TOk G L'[i] := by
        cases hok with
        | mk _ _ _ _ _ _ _ _ h => exact h _ (List.mem_of_getElem? (hsub i hlt))
      refine wd_call rfl Tryz.call48 (vs := [.int .i64 f.of, sv, .bool false, .int .i64 ver, .bool flex, .agg (cells i).toArray]) rfl rfl ((hV w5 X f.of sv f.sub false ver flex (cells i) L'[i] (hF.keep (keeps_below hbw5 (Nat.le_refl _))) (hrep.keep (keeps_below hbw5 (Nat.le_refl _))) hfs hokc (by omega)).mono ?_)
      rintro e w6 ⟨d6, rfl, ho6, hb6⟩
      have hs5 : w.heap.size < w5.heap.size := by rw [h5]; exact lt_of_some hF4
      have hF6 : w6.heap[w.heap.size]? = some (.cells (fldV f sv).toArray 46 (0, 0)) := (hb6.block _ hs5).trans (by rw [h5]; exact hF4)
      have hbw6 := hbw5.trans (hb6.mono hbw5.size)
      refine ⟨d6, rfl, ⟨hF6, hbw6⟩, ?_⟩
      have ho5 : Own w5 w.heap.size 5 d4 (sCounted flex null L'.length 4 ++ (L'.take i).flatMap (sValue (sPart d ver flex) f.of f.sub false flex)) := ho4.below hb5
      have ho6' := ho5.below hb6
      have hv6 : BytesRep0 w6 (fun _ => False) d6 (sValue (sPart d ver flex) f.of f.sub false flex L'[i]) := (OwnC.of_own ho6).bytes (fun _ _ _ h => h)
      refine wd_append (R := fun d' w' => Own w' w.heap.size 5 d' ((sCounted flex null L'.length 4 ++ (L'.take i).flatMap (sValue (sPart d ver flex) f.of f.sub false flex)) ++ sValue (sPart d ver flex) f.of f.sub false flex L'[i]) ∧ w'.heap[w.heap.size]? = some (.cells (fldV f sv).toArray 46 (0, 0)) ∧ Below w.heap.size w w') rfl rfl rfl ?_ rfl ?_
      · intro ρ oo hop hx hy
        obtain ⟨d7, w7, h1, h2, h3⟩ := run_append_rep byteT hop hx hy hv6 ho6' hbw6.size (by rw [List.length_append]; omega)
        have hF7 := grown_other ho6' h3 hF6 (by decide)
        have hb7 := hbw6.trans (below_of_grown ho6' hbw6.size h3)
        exact ⟨d7, w7, h1, ⟨hF7, hb7⟩, h2, hF7, hb7⟩
      rintro d7 w7 ⟨ho7, hF7, hb7⟩
      refine wd_assign rfl rfl rfl ?_
      refine wd_done ?_
      refine wk_blockEnd ?_
      refine wk_reg (id := 11) ?_
      refine wk_add rfl rfl rfl ?_
      refine wk_move rfl rfl ?_
      refine wk_nil ?_
      refine wk_loopNext (i + 1, d7) (by simp only; omega) (congrArg (fun z => [some (Value.int .i64 ver), some (Value.bool flex), some (Value.pointer (some ⟨w.heap.size, 0, none⟩)), some (Value.slice (some ⟨b, o, none⟩) L'.length c), some d7, some (Value.int .i64 (L'.length : Int)), some (Value.int .i64 z)]) hnx)
        ⟨?_, hF7, hb7, by simp only; omega⟩
      simp only
      rw [List.take_add_one, List.getElem?_eq_getElem hlt, List.flatMap_append]
      simpa [List.append_assoc] using ho7
    · have c2 : cmp .lss (i : Int) (L'.length : Int) = some false := by simp [cmp]; omega
      refine wk_seq ?_
      refine wk_reg (id := 8) ?_
      refine wk_cmp rfl rfl (by with_reducible assumption) rfl ?_
      refine wk_nil ?_
      refine wk_seq ?_
      refine wk_condF rfl ?_
      refine wk_loopExit ?_
      refine wk_seq ?_
      refine wk_reg (id := 12) ?_
      refine wk_move rfl rfl ?_
      refine wk_assign rfl rfl ?_
      refine wk_nil ?_
      rw [List.take_of_length_le (by omega)] at ho4
      exact wk_ret r0 rfl rfl ⟨d4, rfl, ho4, hb4⟩
  · have c11 : cmp .eql f.kind 11 = some false := by simp [cmp, k11]
    have hK1 := hF.keep (keeps_below (X := X) hbw1 (Nat.le_refl _))
    have hK2 := hT0.keep (keeps_below (X := X) hbw1 (Nat.le_refl _))
    -- the plain value
    have plain : sField (sPart d ver flex) ver flex f (.mk N S nl L U) = sValue (sPart d ver flex) f.kind f.sub null flex (.mk N S nl L U) →
        Calls Tryz.prog 48 #[.int .i64 f.kind, sv, .bool null, .int .i64 ver, .bool flex, .agg #[.int .i64 N, v1, .bool nl, v2, v3]] w1 fun e w' => ∃ d', e = .returned d' ∧ Own w' w.heap.size 5 d' (sField (sPart d ver flex) ver flex f (.mk N S nl L U)) ∧ Below w.heap.size w w' := by
      intro hs
      refine (hV w1 X f.kind sv f.sub null ver flex [.int .i64 N, v1, .bool nl, v2, v3] (.mk N S nl L U) hK1 hK2 hfs hok (by rw [← hs]; exact hlen)).mono ?_
      rintro e w' ⟨d', rfl, ho, hb⟩
      exact ⟨d', rfl, by rw [hs]; exact own_mono ho hbw1.size, hbw1.trans (hb.mono hbw1.size)⟩
    by_cases k10 : f.kind = 10
    · have c10 : cmp .eql f.kind 10 = some true := by simp [cmp, k10]
      by_cases kn : 0 ≤ f.null
      · have cn : cmp .geq f.null 0 = some true := by simp [cmp, kn]
        have hsf : sField (sPart d ver flex) ver flex f (.mk N S nl L U) = if null then be 1 (-1) else be 1 1 ++ sPart d ver flex f.sub (.mk N S nl L U) := by
          simp [sField, k10, hnull, kn]
        rw [hsf] at hlen ⊢
        refine wk_assign rfl rfl ?_
        refine wk_nil ?_
        refine wk_seq ?_
        refine wk_seq ?_
        refine wk_reg (id := 2) ?_
        refine wk_field (f := 0) (i := Tryz.t3) rfl Tryz.underlying46 rfl (by kernel_rfl) (by decide) rfl ?_
        refine wk_load rfl Tryz.underlying3 rfl (by exact cell_blk (by with_reducible assumption) rfl) rfl ?_
        refine wk_cmp rfl rfl (by with_reducible assumption) rfl ?_
        refine wk_nil ?_
        refine wk_condF rfl ?_
        refine wk_skip ?_
        refine wk_seq ?_
        refine wk_seq ?_
        refine wk_reg (id := 13) ?_
        refine wk_field (f := 0) (i := Tryz.t3) rfl Tryz.underlying46 rfl (by kernel_rfl) (by decide) rfl ?_
        refine wk_load rfl Tryz.underlying3 rfl (by exact cell_blk (by with_reducible assumption) rfl) rfl ?_
        refine wk_cmp rfl rfl (by with_reducible assumption) rfl ?_
        refine wk_move rfl rfl ?_
        refine wk_gT rfl ?_; refine wk_field (f := 3) (i := Tryz.t3) rfl Tryz.underlying46 rfl (by kernel_rfl) (by decide) rfl ?_
        refine wk_gT rfl ?_; refine wk_load rfl Tryz.underlying3 rfl (by exact cell_blk (by with_reducible assumption) rfl) rfl ?_
        refine wk_gT rfl ?_; refine wk_cmp rfl rfl (by with_reducible assumption) rfl ?_
        refine wk_pick rfl rfl rfl rfl ?_
        refine wk_nil ?_
        refine wk_condT rfl ?_
        refine wk_seq ?_
        refine wk_seq ?_
        refine wk_reg (id := 14) ?_
        refine wk_move rfl rfl ?_
        refine wk_nil ?_
        cases null with
        | true =>
          refine wk_condT rfl ?_
          refine wk_seq ?_
          refine wk_reg (id := 15) ?_
          refine wk_call Tryz.call49 (vs := [.int .i64 (-1), .int .i64 ((1 : Nat) : Int)]) rfl rfl ((Fixed_any w1 (-1) 1 (by omega)).mono ?_)
          rintro e w2 ⟨d2, rfl, ho2, hb2⟩
          refine ⟨d2, rfl, ?_⟩
          refine wk_assign rfl rfl ?_
          refine wk_nil ?_
          exact wk_ret r0 rfl rfl ⟨d2, rfl, own_mono ho2 hbw1.size, hbw1.trans (hb2.mono hbw1.size)⟩
        | false =>
          simp only [Bool.false_eq_true, if_false, List.length_append, be_length] at hlen
          refine wk_condF rfl ?_
          refine wk_skip ?_
          refine wk_seq ?_
          refine wk_draw (fun w' => w'.heap[w.heap.size]? = some (.cells (fldV f sv).toArray 46 (0, 0)) ∧ w'.heap[(w.alloc (.cells (Value.agg (fldV f sv).toArray).cells 46)).heap.size]? = some (.cells #[.int .i64 N, v1, .bool nl, v2, v3] 26 (0, 0)))
            [(1, true), (2, true), (3, true), (4, true), (5, true), (0, false), (6, false), (7, false), (8, true)] mixed pq0 (by kernel_rfl) (by kernel_rfl) (by kernel_rfl) (fun w5 h5 _ => ⟨by rw [h5]; exact hF1, by rw [h5]; exact hT1⟩) ?_
          intro w2 h2 hb2
          have hbw2 := hbw1.trans (hb2.mono hbw1.size)
          have hs2 : w2.heap.size = w1.heap.size := by rw [h2]
          refine wd_field (f := 7) (ti := Tryz.t31) rfl rfl Tryz.underlying46 rfl (by kernel_rfl) (by decide) rfl ?_
          refine wd_load rfl rfl Tryz.underlying31 rfl (fun _ hS => cell_blk hS.1 rfl) rfl ?_
          refine wd_move rfl rfl rfl ?_
          refine wd_move rfl rfl rfl ?_
          refine wd_loadA (ti := Tryz.t26) rfl rfl Tryz.underlying26 rfl (by kernel_rfl) (vs := [.int .i64 N, v1, .bool nl, v2, v3]) rfl (fun w' hS => cells_blk hS.2) rfl ?_
          skip
          refine wd_call rfl Tryz.call49 (vs := [.int .i64 1, .int .i64 ((1 : Nat) : Int)]) rfl rfl ((Fixed_any w2 1 1 (by omega)).mono ?_)
          rintro e w3 ⟨d3, rfl, ho3, hb3⟩
          have hF2 : w2.heap[w.heap.size]? = some (.cells (fldV f sv).toArray 46 (0, 0)) := by rw [h2]; exact hF1
          have hT2 : w2.heap[(w.alloc (.cells (Value.agg (fldV f sv).toArray).cells 46)).heap.size]? = some (.cells #[.int .i64 N, v1, .bool nl, v2, v3] 26 (0, 0)) := by rw [h2]; exact hT1
          have hF3 := (hb3.block _ (lt_of_some hF2)).trans hF2
          have hT3 := (hb3.block _ (lt_of_some hT2)).trans hT2
          have hbw3 := hbw2.trans (hb3.mono hbw2.size)
          refine ⟨d3, rfl, ⟨hF3, hT3⟩, ?_⟩
          refine wd_call rfl Tryz.call13 (vs := [sv, .int .i64 ver, .bool flex, .agg #[.int .i64 N, v1, .bool nl, v2, v3]]) rfl rfl ((hP w3 X sv f.sub [.int .i64 N, v1, .bool nl, v2, v3] (.mk N S nl L U) ver flex
            (hF.keep (keeps_below hbw3 (Nat.le_refl _))) (hT0.keep (keeps_below hbw3 (Nat.le_refl _))) hfs hok (by omega)).mono ?_)
          rintro e w4 ⟨d4, rfl, ho4, hb4⟩
          have hF4 := (hb4.block _ (lt_of_some hF3)).trans hF3
          have hT4 := (hb4.block _ (lt_of_some hT3)).trans hT3
          have hbw4 := hbw3.trans (hb4.mono hbw3.size)
          refine ⟨d4, rfl, ⟨hF4, hT4⟩, ?_⟩
          have ho3' : Own w4 w.heap.size 5 d3 (be 1 1) := (own_mono ho3 hbw2.size).below hb4
          have hv4 : BytesRep0 w4 (fun _ => False) d4 (sPart d ver flex f.sub (.mk N S nl L U)) := (OwnC.of_own ho4).bytes (fun _ _ _ h => h)
          refine wd_append (R := fun d' w' => Own w' w.heap.size 5 d' (be 1 1 ++ sPart d ver flex f.sub (.mk N S nl L U)) ∧ Below w.heap.size w w') rfl rfl rfl ?_ rfl ?_
          · intro ρ oo hop hx hy
            obtain ⟨d7, w7, h1, h2, h3⟩ := run_append_rep byteT hop hx hy hv4 ho3' hbw4.size (by rw [be_length]; omega)
            exact ⟨d7, w7, h1, ⟨grown_other ho3' h3 hF4 (by decide), grown_other ho3' h3 hT4 (by decide)⟩, h2, hbw4.trans (below_of_grown ho3' hbw4.size h3)⟩
          rintro d7 w7 ⟨ho7, hb7⟩
          refine wd_assign rfl rfl rfl ?_
          refine wd_done ?_
          exact wk_ret r0 rfl rfl ⟨d7, rfl, by simpa using ho7, hb7⟩
      · have cn : cmp .geq f.null 0 = some false := by simp [cmp, kn]
        have hs := plain (by simp [sField, k10, hnull, kn])
        refine wk_assign rfl rfl ?_
        refine wk_nil ?_
        refine wk_seq ?_
        refine wk_seq ?_
        refine wk_reg (id := 2) ?_
        refine wk_field (f := 0) (i := Tryz.t3) rfl Tryz.underlying46 rfl (by kernel_rfl) (by decide) rfl ?_
        refine wk_load rfl Tryz.underlying3 rfl (by exact cell_blk (by with_reducible assumption) rfl) rfl ?_
        refine wk_cmp rfl rfl (by with_reducible assumption) rfl ?_
        refine wk_nil ?_
        refine wk_condF rfl ?_
        refine wk_skip ?_
        refine wk_seq ?_
        refine wk_seq ?_
        refine wk_reg (id := 13) ?_
        refine wk_field (f := 0) (i := Tryz.t3) rfl Tryz.underlying46 rfl (by kernel_rfl) (by decide) rfl ?_
        refine wk_load rfl Tryz.underlying3 rfl (by exact cell_blk (by with_reducible assumption) rfl) rfl ?_
        refine wk_cmp rfl rfl (by with_reducible assumption) rfl ?_
        refine wk_move rfl rfl ?_
        refine wk_gT rfl ?_; refine wk_field (f := 3) (i := Tryz.t3) rfl Tryz.underlying46 rfl (by kernel_rfl) (by decide) rfl ?_
        refine wk_gT rfl ?_; refine wk_load rfl Tryz.underlying3 rfl (by exact cell_blk (by with_reducible assumption) rfl) rfl ?_
        refine wk_gT rfl ?_; refine wk_cmp rfl rfl (by with_reducible assumption) rfl ?_
        refine wk_pick rfl rfl rfl rfl ?_
        refine wk_nil ?_
        refine wk_condF rfl ?_
        refine wk_skip ?_
        refine wk_seq ?_
        refine wk_reg (id := 17) ?_
        refine wk_field (f := 0) (i := Tryz.t3) rfl Tryz.underlying46 rfl (by kernel_rfl) (by decide) rfl ?_
        refine wk_load rfl Tryz.underlying3 rfl (by exact cell_blk (by with_reducible assumption) rfl) rfl ?_
        refine wk_field (f := 7) (i := Tryz.t31) rfl Tryz.underlying46 rfl (by kernel_rfl) (by decide) rfl ?_
        refine wk_load rfl Tryz.underlying31 rfl (by exact cell_blk (by with_reducible assumption) rfl) rfl ?_
        refine wk_move rfl rfl ?_
        refine wk_move rfl rfl ?_
        refine wk_move rfl rfl ?_
        refine wk_loadA (i := Tryz.t26) rfl Tryz.underlying26 rfl (by kernel_rfl) rfl (by exact cells_blk (by with_reducible assumption)) rfl ?_
        refine wk_call Tryz.call48 (vs := [.int .i64 f.kind, sv, .bool null, .int .i64 ver, .bool flex, .agg #[.int .i64 N, v1, .bool nl, v2, v3]]) rfl rfl (hs.mono ?_)
        rintro e w2 ⟨d2, rfl, ho2, hb2⟩
        refine ⟨d2, rfl, ?_⟩
        refine wk_assign rfl rfl ?_
        refine wk_nil ?_
        exact wk_ret r0 rfl rfl ⟨d2, rfl, ho2, hb2⟩
    · have c10 : cmp .eql f.kind 10 = some false := by simp [cmp, k10]
      have hs := plain (by simp [sField, k10, k11, hnull])
      refine wk_assign rfl rfl ?_
      refine wk_nil ?_
      refine wk_seq ?_
      refine wk_seq ?_
      refine wk_reg (id := 2) ?_
      refine wk_field (f := 0) (i := Tryz.t3) rfl Tryz.underlying46 rfl (by kernel_rfl) (by decide) rfl ?_
      refine wk_load rfl Tryz.underlying3 rfl (by exact cell_blk (by with_reducible assumption) rfl) rfl ?_
      refine wk_cmp rfl rfl (by with_reducible assumption) rfl ?_
      refine wk_nil ?_
      refine wk_condF rfl ?_
      refine wk_skip ?_
      refine wk_seq ?_
      refine wk_seq ?_
      refine wk_reg (id := 13) ?_
      refine wk_field (f := 0) (i := Tryz.t3) rfl Tryz.underlying46 rfl (by kernel_rfl) (by decide) rfl ?_
      refine wk_load rfl Tryz.underlying3 rfl (by exact cell_blk (by with_reducible assumption) rfl) rfl ?_
      refine wk_cmp rfl rfl (by with_reducible assumption) rfl ?_
      refine wk_move rfl rfl ?_
      refine wk_gF rfl rfl ?_
      refine wk_gF rfl rfl ?_
      refine wk_gF rfl rfl ?_
      refine wk_pick rfl rfl rfl rfl ?_
      refine wk_nil ?_
      refine wk_condF rfl ?_
      refine wk_skip ?_
      refine wk_seq ?_
      refine wk_reg (id := 17) ?_
      refine wk_field (f := 0) (i := Tryz.t3) rfl Tryz.underlying46 rfl (by kernel_rfl) (by decide) rfl ?_
      refine wk_load rfl Tryz.underlying3 rfl (by exact cell_blk (by with_reducible assumption) rfl) rfl ?_
      refine wk_field (f := 7) (i := Tryz.t31) rfl Tryz.underlying46 rfl (by kernel_rfl) (by decide) rfl ?_
      refine wk_load rfl Tryz.underlying31 rfl (by exact cell_blk (by with_reducible assumption) rfl) rfl ?_
      refine wk_move rfl rfl ?_
      refine wk_move rfl rfl ?_
      refine wk_move rfl rfl ?_
      refine wk_loadA (i := Tryz.t26) rfl Tryz.underlying26 rfl (by kernel_rfl) rfl (by exact cells_blk (by with_reducible assumption)) rfl ?_
      refine wk_call Tryz.call48 (vs := [.int .i64 f.kind, sv, .bool null, .int .i64 ver, .bool flex, .agg #[.int .i64 N, v1, .bool nl, v2, v3]]) rfl rfl (hs.mono ?_)
      rintro e w2 ⟨d2, rfl, ho2, hb2⟩
      refine ⟨d2, rfl, ?_⟩
      refine wk_assign rfl rfl ?_
      refine wk_nil ?_
      exact wk_ret r0 rfl rfl ⟨d2, rfl, ho2, hb2⟩
end Go.Proofs.YthejiimocbfagabGreatDoor
