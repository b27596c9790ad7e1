/-
  Tags of a struct, one of them known (a number of 16 bits): written by the code that stands in the struct's loop.
-/
import Derived.Test.YtecjbmbphmmlbaaDoorRK6
import Derived.Test.YtecjbmbphmmlbaaDoorKbinG
import Derived.Test.YtecjbmbphmmlbaaDoorKHook
import Derived.Test.YtecjbmbphmmlbaaDoorKRead
set_option linter.unusedVariables false
set_option linter.unusedSimpArgs false
namespace Go.Proofs.YtecjbmbphmmlbaaDoor
open Go Go.RowKit Go.Proofs.Eng
set_option maxRecDepth 20000
set_option maxHeartbeats 8000000
theorem hw_ok : HContract Tryd.prog 5 hookWr := by
  intro w base sh L d bs a Q k hL hok hn hd hv h1 hown hbase hsz hQ
  have hn : a.tmps.size = 271 := hn
  have hv : a.eval (.tmp 10) = .pointer (some ⟨L.b, L.o, none⟩) := hv
  have hok : okWr sh = true := hok
  unfold okWr at hok
  split at hok
  · rename_i hk1 hk2
    obtain ⟨hlen, hconf⟩ := hL.conf
    have hl1 := (List.getElem?_eq_some_iff.1 hk1).1
    have hl2 := (List.getElem?_eq_some_iff.1 hk2).1
    have hvl := hL.len
    obtain ⟨c1, hc1⟩ : ∃ c, L.cs[19]? = some c := ⟨_, List.getElem?_eq_getElem (by omega)⟩
    obtain ⟨c2, hc2⟩ : ∃ c, L.cs[23]? = some c := ⟨_, List.getElem?_eq_getElem (by omega)⟩
    obtain ⟨u1, hu1⟩ : ∃ c, L.vals[19]? = some c := ⟨_, List.getElem?_eq_getElem (by omega)⟩
    obtain ⟨u2, hu2⟩ : ∃ c, L.vals[23]? = some c := ⟨_, List.getElem?_eq_getElem (by omega)⟩
    obtain ⟨x, rfl, hx⟩ := (hconf 19 c1 _ hc1 hk1).int_inv
    obtain ⟨tl, rfl, t1, t2, t3, _⟩ := (hconf 23 c2 _ hc2 hk2).tags_inv
    obtain rfl := (hL.rep 19 u1 _ hu1 hc1).int_inv
    have hrep2 := hL.rep 23 u2 _ hu2 hc2
    have hcell1 : w.cell? ⟨L.b, L.o + 19, none⟩ = some (.int .i16 x) := hL.cell 19 _ hu1
    have hcell2 : w.cell? ⟨L.b, L.o + 23, none⟩ = some u2 := hL.cell 23 _ hu2
    have hlt := hL.lt
    have hvk : (L.cs.drop 19).take 1 = [.int .i16 x] := by
      rw [List.take_one, List.head?_drop, hc1]
      rfl
    have hout : hkOut hookWr L.cs = wkt (ktl (present [.int .i16 x]) (be 2 x) tl) := by
      show wkt (ktl (present ((L.cs.drop 19).take 1)) (runW (.prim .i16 0 .nil) ((L.cs.drop 19).take 1)) (tagsOf L.cs[23]?)) = _
      rw [hvk, hc2]
      show wkt (ktl (present [.int .i16 x]) (be 2 x ++ []) tl) = _
      rw [List.append_nil]
    rw [hout] at hsz hQ
    have hconfT : Conf (.tags false) (.tags tl) := .tags _ _ t1 t2 t3 (fun h => by cases h)
    have hsame : ∀ (a' : Act) (σ : Sv), Knows 271 σ a' → Eng.look σ 10 = some (.pointer (some ⟨L.b, L.o, none⟩)) → Fr (10 :: wrW) (tauOf (10 :: wrW) 271 a) σ → ∀ t, t ∉ wrC hookWr.code → a'.eval (.tmp t) = a.eval (.tmp t) := by
      intro a' σ hk h2 hF t ht
      have ht : t ∉ wrC codeWr := ht
      by_cases e2 : t = 10
      · subst e2; rw [hk.2.2 _ _ h2, hv]
      · refine hook_same hk hn hF t ?_
        have h3 : has wrW t = false := by
          cases hh : has wrW t with
          | false => rfl
          | true => exact absurd (has_iff.1 (allB_mem supW t (has_iff.1 hh))) ht
        simp only [has, h3, Bool.or_false]
        exact beq_ne (Ne.symm e2)
    suffices key : wk Tryd.prog (Qh Tryd.prog Q k) 271 ([(10, .pointer (some ⟨L.b, L.o, none⟩)), (1, d)] ++ tauOf (10 :: wrW) 271 a) [.code codeWr] w from
      hook_wk key (hook_start hn hd (by
        intro p hp
        simp only [List.mem_cons, List.not_mem_nil, or_false] at hp
        rcases hp with rfl | rfl
        · exact hv
        · exact h1))
    have hτ0 : ∀ t v, Eng.look (tauOf (10 :: wrW) 271 a) t = some v → has (10 :: wrW) t = false := fun t v h => (tau_inv h).1
    generalize tauOf (10 :: wrW) 271 a = τ at hsame hτ0 ⊢
    show wk Tryd.prog (Qh Tryd.prog Q k) 271 ((10, .pointer (some ⟨L.b, L.o, none⟩)) :: (1, d) :: τ) [.code codeWr] w
    by_cases hx0 : x = 0
    · subst hx0
      have e0 : ktl (present [.int .i16 0]) (be 2 0) tl = tl := rfl
      rw [e0] at hsz hQ
      have hml : tl.length % 4294967296 = tl.length := Nat.mod_eq_of_lt (by omega)
      have hlo : (wkt tl).length = (uv tl.length).length + (tl.flatMap wtag).length := by rw [wkt, List.length_append, hml]
      have cn : cmp .neq 0 0 = some false := rfl
      have cl : cmp .lss ((0 : Nat) : Int) ((0 : Nat) : Int) = some false := rfl
      have hcount : IntKind.u32.wrap (IntKind.i64.wrap (((0 : Nat) : Int) + (tl.length : Int))) = ((tl.length : Nat) : Int) := by
        rw [i64wr _ (by omega) (by omega), show ((0 : Nat) : Int) + (tl.length : Int) = (tl.length : Int) by omega]
        exact u32n tl.length (by omega)
      refine wk_seq ?_
      refine wk_reg (id := 64) ?_
      refine wk_assign rfl rfl ?_
      refine wk_nil ?_
      refine wk_seq ?_
      refine wk_seq ?_
      refine wk_reg (id := 65) ?_
      refine wk_move rfl rfl ?_
      refine wk_nilCheck rfl rfl ?_
      refine wk_field (f := 4) (i := Tryd.t29) rfl Tryd.underlying52 rfl (by kernel_rfl) (by decide) rfl ?_
      refine wk_load rfl Tryd.underlying29 rfl hcell1 rfl ?_
      refine wk_cmp rfl rfl (by with_reducible assumption) rfl ?_
      refine wk_nil ?_
      refine wk_condF rfl ?_
      refine wk_skip ?_
      refine wk_seq ?_
      refine wk_reg (id := 67) ?_
      refine wk_move rfl rfl ?_
      refine wk_move rfl rfl ?_
      refine wk_slen rfl Tryd.underlying66 rfl ?_
      refine wk_move rfl rfl ?_
      refine wk_nilCheck rfl rfl ?_
      refine wk_field (f := 8) (i := Tryd.t41) rfl Tryd.underlying52 rfl (by kernel_rfl) (by decide) rfl ?_
      refine wk_call Tryd.call29 (vs := [.pointer (some ⟨L.b, L.o + 23, none⟩)]) rfl rfl ((c_TagsLen w _ L.b (L.o + 23) u2 tl hcell2 hrep2 (by omega)).mono ?_)
      rintro e w1 ⟨rfl, rfl⟩
      refine ⟨_, rfl, ?_⟩
      refine wk_add rfl rfl rfl ?_
      refine wk_convV rfl Tryd.underlying3 Tryd.underlying65 (by with_reducible assumption) rfl ?_
      refine wk_call Tryd.call28 (vs := [d, .int .u32 ((tl.length : Nat) : Int)]) rfl rfl ((AppendUvarint_any w1 base d bs tl.length hown hbase (by omega) (by omega)).mono ?_)
      rintro e w2 ⟨d2, rfl, ho2, hb2⟩
      refine ⟨_, rfl, ?_⟩
      refine wk_assign rfl rfl ?_
      refine wk_nil ?_
      refine wk_seq ?_
      refine wk_seq ?_
      refine wk_reg (id := 68) ?_
      refine wk_move rfl rfl ?_
      refine wk_slen rfl Tryd.underlying66 rfl ?_
      refine wk_move rfl rfl ?_
      refine wk_nil ?_
      refine wk_loopW (fun _ : Unit => [(10, .pointer (some ⟨L.b, L.o, none⟩)), (1, d2), (229, .slice none 0 0), (230, .int .i64 ((0 : Nat) : Int)), (231, .int .i64 ((0 : Nat) : Int))] ++ τ) (fun _ w' => w' = w2) (fun _ => 0) () (pre_sub hτ0 rfl (by repeat (first | exact Fr.base | refine Fr.step rfl ?_))) rfl ?_
      rintro _ w' rfl
      show wk Tryd.prog _ 271 ((10, .pointer (some ⟨L.b, L.o, none⟩)) :: (1, d2) :: (229, .slice none 0 0) :: (230, .int .i64 ((0 : Nat) : Int)) :: (231, .int .i64 ((0 : Nat) : Int)) :: τ) _ w'
      refine wk_seq ?_
      refine wk_reg (id := 69) ?_
      refine wk_cmp rfl rfl (by with_reducible assumption) rfl ?_
      refine wk_nil ?_
      refine wk_seq ?_
      refine wk_condF rfl ?_
      refine wk_loopExit ?_
      refine wk_reg (id := 78) ?_
      refine wk_move rfl rfl ?_
      refine wk_nilCheck rfl rfl ?_
      refine wk_field (f := 8) (i := Tryd.t41) rfl Tryd.underlying52 rfl (by kernel_rfl) (by decide) rfl ?_
      refine wk_move rfl rfl ?_
      have hsz2 := hb2.size
      refine wk_call Tryd.call30 (vs := [.pointer (some ⟨L.b, L.o + 23, none⟩), d2]) rfl rfl ((c_AppendEach w' base L.b (L.o + 23) d2 u2 (bs ++ uv tl.length) tl ho2 (by omega) hlt ((hb2.cell (p := ⟨L.b, L.o + 23, none⟩) hlt).trans hcell2) (hrep2.keep (Keeps.of_below hb2)) hconfT (by rw [List.length_append]; omega)).mono ?_)
      rintro e w3 ⟨d3, rfl, ho3, hb3⟩
      refine ⟨_, rfl, ?_⟩
      refine wk_assign rfl rfl ?_
      refine wk_nil ?_
      refine wk_raw (fun a' ha' => ?_)
      show wpT Tryd.prog Q k a' w3
      refine hQ a' w3 d3 ⟨ha'.1, ha'.2.1.trans hd.symm, hsame a' _ ha' rfl (by repeat (first | exact Fr.base | refine Fr.step rfl ?_)), ?_, hb2.trans hb3⟩ (ha'.2.2 1 _ rfl)
      rw [wkt, hml, ← List.append_assoc]
      exact ho3
    · have hp : present [.int .i16 x] = true := by simp [present, isZ, hx0]
      have e0 : ktl (present [.int .i16 x]) (be 2 x) tl = (0, be 2 x) :: tl := by rw [hp]; rfl
      rw [e0] at hsz hQ
      have hml : (tl.length + 1) % 4294967296 = tl.length + 1 := Nat.mod_eq_of_lt (by omega)
      have hw0 : wtag (0, be 2 x) = uv 0 ++ (uv 2 ++ be 2 x) := rfl
      have hlo : (wkt ((0, be 2 x) :: tl)).length = (uv (tl.length + 1)).length + (((uv 0).length + ((uv 2).length + 2)) + (tl.flatMap wtag).length) := by
        rw [wkt, List.length_append, List.length_cons, hml, List.flatMap_cons, List.length_append, hw0, List.length_append, List.length_append, be_length]
      have cn : cmp .neq x 0 = some true := by simp [cmp, hx0]
      have hcount : IntKind.u32.wrap (IntKind.i64.wrap (((1 : Nat) : Int) + (tl.length : Int))) = ((tl.length + 1 : Nat) : Int) := by
        rw [i64wr _ (by omega) (by omega), show ((1 : Nat) : Int) + (tl.length : Int) = ((tl.length + 1 : Nat) : Int) by omega]
        exact u32n (tl.length + 1) (by omega)
      refine wk_seq ?_
      refine wk_reg (id := 64) ?_
      refine wk_assign rfl rfl ?_
      refine wk_nil ?_
      refine wk_seq ?_
      refine wk_seq ?_
      refine wk_reg (id := 65) ?_
      refine wk_move rfl rfl ?_
      refine wk_nilCheck rfl rfl ?_
      refine wk_field (f := 4) (i := Tryd.t29) rfl Tryd.underlying52 rfl (by kernel_rfl) (by decide) rfl ?_
      refine wk_load rfl Tryd.underlying29 rfl hcell1 rfl ?_
      refine wk_cmp rfl rfl (by with_reducible assumption) rfl ?_
      refine wk_nil ?_
      refine wk_condT rfl ?_
      refine wk_reg (id := 66) ?_
      refine wk_move rfl rfl ?_
      refine wk_bsU (n := 0) u32T rfl rfl rfl ?_
      refine wk_appendU (base := w.heap.size) (q := 0) (u := .int .u32 0) u32T rfl rfl (World.ownsRow_nil _ _ _ _) (cell_blk (heap_alloc_new w _) rfl) rfl (by omega) (by simp) rfl ?_
      intro v1 w1 ho1 hg1
      have hb1 : Below w.heap.size w w1 := by
        have h := below1 w (.cells #[.int .u32 0] 65)
        exact ⟨hg1.os.trans h.os, hg1.tape.trans h.tape, hg1.output.trans h.output, Nat.le_trans h.size hg1.size, fun q hq => (hg1.block q (by simp; omega) (by simp [Value.ownBlock])).trans (h.block q hq)⟩
      obtain ⟨g, cap, cur, rfl, hgb, hcur, hcap, htk⟩ : ∃ g cap cur, v1 = .slice (some ⟨g, 0, none⟩) 1 cap ∧ w.heap.size ≤ g ∧ w1.heap[g]? = some (.cells cur 65 (0, 0)) ∧ 1 ≤ cap ∧ cur.toList.take (1 * 1) = [.int .u32 0] := by
        rcases ho1.2 with ⟨_, h0⟩ | ⟨g, cap, cur, h1, h2, h3, h4, _, _, h5⟩
        · omega
        · exact ⟨g, cap, cur, h1, h2, h3, h4, h5⟩
      have hown1 : Own w1 base 5 d bs := hown.below hb1
      have hbs1 : base ≤ w1.heap.size := Nat.le_trans hbase hb1.size
      have hbB1 : Below base w w1 := hb1.mono hbase
      have hc21 : w1.cell? ⟨L.b, L.o + 23, none⟩ = some u2 := (hbB1.cell (p := ⟨L.b, L.o + 23, none⟩) hlt).trans hcell2
      refine wk_assign rfl rfl ?_
      refine wk_nil ?_
      refine wk_seq ?_
      refine wk_reg (id := 67) ?_
      refine wk_move rfl rfl ?_
      refine wk_move rfl rfl ?_
      refine wk_slen rfl Tryd.underlying66 rfl ?_
      refine wk_move rfl rfl ?_
      refine wk_nilCheck rfl rfl ?_
      refine wk_field (f := 8) (i := Tryd.t41) rfl Tryd.underlying52 rfl (by kernel_rfl) (by decide) rfl ?_
      refine wk_call Tryd.call29 (vs := [.pointer (some ⟨L.b, L.o + 23, none⟩)]) rfl rfl ((c_TagsLen w1 _ L.b (L.o + 23) u2 tl hc21 (hrep2.keep (Keeps.of_below hbB1)) (by omega)).mono ?_)
      rintro e w1' ⟨rfl, rfl⟩
      refine ⟨_, rfl, ?_⟩
      refine wk_add rfl rfl rfl ?_
      refine wk_convV rfl Tryd.underlying3 Tryd.underlying65 (by with_reducible assumption) rfl ?_
      refine wk_call Tryd.call28 (vs := [d, .int .u32 ((tl.length + 1 : Nat) : Int)]) rfl rfl ((AppendUvarint_grow w1' base d bs (tl.length + 1) hown1 hbs1 (by omega) (by omega)).mono ?_)
      rintro e w2 ⟨d2, rfl, ho2, hg2⟩
      refine ⟨_, rfl, ?_⟩
      have hb2 : Below base w1' w2 := below_of_grown hown1 hbs1 hg2
      have hbB2 : Below base w w2 := hbB1.trans hb2
      have hcur2 : w2.heap[g]? = some (.cells cur 65 (0, 0)) := (hg2.block g (lt_of_some hcur) (by
        intro e
        have := (World.ownsRow.lt hown g e.symm).2
        omega)).trans hcur
      have hcg : w2.cell? ⟨g, 0 + 0 * Tryd.t65.size, none⟩ = some (.int .u32 0) := by
        refine cell_blk (j := 0) hcur2 ?_
        have h5 : (cur.toList.take 1)[0]? = [Value.int .u32 0][0]? := by rw [htk]
        rw [List.getElem?_take_of_lt (by omega)] at h5
        exact h5
      have hbs2 : base ≤ w2.heap.size := Nat.le_trans hbs1 hb2.size
      refine wk_assign rfl rfl ?_
      refine wk_nil ?_
      refine wk_seq ?_
      refine wk_seq ?_
      refine wk_reg (id := 68) ?_
      refine wk_move rfl rfl ?_
      refine wk_slen rfl Tryd.underlying66 rfl ?_
      refine wk_move rfl rfl ?_
      refine wk_nil ?_
      refine wk_loopW (fun i : Nat × Value => [(10, .pointer (some ⟨L.b, L.o, none⟩)), (1, i.2), (229, .slice (some ⟨g, 0, none⟩) 1 cap), (230, .int .i64 ((1 : Nat) : Int)), (231, .int .i64 (i.1 : Int))] ++ τ)
        (fun i w' => (i.1 = 0 ∧ i.2 = d2 ∧ w' = w2) ∨ (i.1 = 1 ∧ Own w' base 5 i.2 (bs ++ uv (tl.length + 1) ++ uv 0 ++ uv 2 ++ be 2 x) ∧ Below base w w')) (fun i => 1 - i.1) (0, d2) (pre_sub hτ0 rfl (by repeat (first | exact Fr.base | refine Fr.step rfl ?_))) (.inl ⟨rfl, rfl, rfl⟩) ?_
      rintro ⟨q, dq⟩ wq hcase
      simp only at hcase
      show wk Tryd.prog _ 271 ((10, .pointer (some ⟨L.b, L.o, none⟩)) :: (1, dq) :: (229, .slice (some ⟨g, 0, none⟩) 1 cap) :: (230, .int .i64 ((1 : Nat) : Int)) :: (231, .int .i64 (q : Int)) :: τ) _ wq
      rcases hcase with ⟨rfl, rfl, rfl⟩ | ⟨rfl, hoq, hbq⟩
      · have cl : cmp .lss ((0 : Nat) : Int) ((1 : Nat) : Int) = some true := rfl
        have ce : cmp .eql 0 0 = some true := rfl
        refine wk_seq ?_
        refine wk_reg (id := 69) ?_
        refine wk_cmp rfl rfl (by with_reducible assumption) rfl ?_
        refine wk_nil ?_
        refine wk_seq ?_
        refine wk_condT rfl ?_
        refine wk_skip ?_
        refine wk_seq ?_
        refine wk_block ?_
        refine wk_seq ?_
        refine wk_reg (id := 70) ?_
        refine wk_idx (i := Tryd.t65) (b := g) (off := 0) (n := 1) (c := cap) (j := 0) rfl rfl Tryd.underlying66 (by kernel_rfl) (by omega) rfl ?_
        refine wk_load (v := .int .u32 0) rfl Tryd.underlying65 rfl hcg rfl ?_
        refine wk_assign rfl rfl ?_
        refine wk_nil ?_
        refine wk_seq ?_
        refine wk_reg (id := 71) ?_
        refine wk_move rfl rfl ?_
        refine wk_nil ?_
        refine wk_block ?_
        refine wk_seq ?_
        refine wk_reg (id := 72) ?_
        refine wk_cmp rfl rfl (by with_reducible assumption) rfl ?_
        refine wk_assign rfl rfl ?_
        refine wk_nil ?_
        refine wk_condT rfl ?_
        refine wk_seq ?_
        refine wk_reg (id := 73) ?_
        refine wk_move rfl rfl ?_
        refine wk_nilCheck rfl rfl ?_
        refine wk_field (f := 4) (i := Tryd.t29) rfl Tryd.underlying52 rfl (by kernel_rfl) (by decide) rfl ?_
        refine wk_load rfl Tryd.underlying29 rfl ((hbB2.cell (p := ⟨L.b, L.o + 19, none⟩) hlt).trans hcell1) rfl ?_
        refine wk_assign rfl rfl ?_
        refine wk_nil ?_
        refine wk_seq ?_
        refine wk_reg (id := 74) ?_
        refine wk_move rfl rfl ?_
        refine wk_call Tryd.call28 (vs := [dq, .int .u32 ((0 : Nat) : Int)]) rfl rfl ((AppendUvarint_any wq base dq _ 0 ho2 hbs2 (by omega) (by rw [List.length_append]; omega)).mono ?_)
        rintro e w3 ⟨d3, rfl, ho3, hb3⟩
        refine ⟨_, rfl, ?_⟩
        refine wk_assign rfl rfl ?_
        refine wk_nil ?_
        refine wk_seq ?_
        refine wk_reg (id := 75) ?_
        refine wk_move rfl rfl ?_
        refine wk_call Tryd.call28 (vs := [d3, .int .u32 ((2 : Nat) : Int)]) rfl rfl ((AppendUvarint_any w3 base d3 _ 2 ho3 (Nat.le_trans hbs2 hb3.size) (by omega) (by simp only [List.length_append]; omega)).mono ?_)
        rintro e w4 ⟨d4, rfl, ho4, hb4⟩
        refine ⟨_, rfl, ?_⟩
        refine wk_assign rfl rfl ?_
        refine wk_nil ?_
        refine wk_reg (id := 76) ?_
        refine wk_move rfl rfl ?_
        refine wk_move rfl rfl ?_
        refine wk_call Tryd.call21 (vs := [d4, .int .i16 x]) rfl rfl ((c_AppendInt16 w4 base d4 (.int .i16 x) _ [.int .i16] [.int .i16 x] ho4 (repV_one rfl (.int .i16 x)) rfl (confL_cons (.int _ _ hx) confL_nil) (Nat.le_trans hbs2 (Nat.le_trans hb3.size hb4.size)) (by simp only [wprim, be_length, List.length_append]; omega)).mono ?_)
        rintro e w5 ⟨d5, rfl, ho5, hb5⟩
        refine ⟨_, rfl, ?_⟩
        refine wk_assign rfl rfl ?_
        refine wk_nil ?_
        refine wk_blockEnd ?_
        refine wk_blockEnd ?_
        refine wk_reg (id := 77) ?_
        refine wk_add rfl rfl rfl ?_
        refine wk_move rfl rfl ?_
        refine wk_nil ?_
        exact wk_loopNextW (1, d5) (by show 1 - 1 < 1 - 0; omega) (pre_sub hτ0 rfl (by repeat (first | exact Fr.base | refine Fr.step rfl ?_))) (.inr ⟨rfl, ho5, ((hbB2.trans hb3).trans hb4).trans hb5⟩)
      · have cl : cmp .lss ((1 : Nat) : Int) ((1 : Nat) : Int) = some false := rfl
        refine wk_seq ?_
        refine wk_reg (id := 69) ?_
        refine wk_cmp rfl rfl (by with_reducible assumption) rfl ?_
        refine wk_nil ?_
        refine wk_seq ?_
        refine wk_condF rfl ?_
        refine wk_loopExit ?_
        refine wk_reg (id := 78) ?_
        refine wk_move rfl rfl ?_
        refine wk_nilCheck rfl rfl ?_
        refine wk_field (f := 8) (i := Tryd.t41) rfl Tryd.underlying52 rfl (by kernel_rfl) (by decide) rfl ?_
        refine wk_move rfl rfl ?_
        have hszq := hbq.size
        refine wk_call Tryd.call30 (vs := [.pointer (some ⟨L.b, L.o + 23, none⟩), dq]) rfl rfl ((c_AppendEach wq base L.b (L.o + 23) dq u2 _ tl hoq (by omega) hlt ((hbq.cell (p := ⟨L.b, L.o + 23, none⟩) hlt).trans hcell2) (hrep2.keep (Keeps.of_below hbq)) hconfT (by simp only [List.length_append, be_length]; omega)).mono ?_)
        rintro e w3 ⟨d3, rfl, ho3, hb3⟩
        refine ⟨_, rfl, ?_⟩
        refine wk_assign rfl rfl ?_
        refine wk_nil ?_
        refine wk_raw (fun a' ha' => ?_)
        show wpT Tryd.prog Q k a' w3
        refine hQ a' w3 d3 ⟨ha'.1, ha'.2.1.trans hd.symm, hsame a' _ ha' rfl (by repeat (first | exact Fr.base | refine Fr.step rfl ?_)), ?_, hbq.trans hb3⟩ (ha'.2.2 1 _ rfl)
        rw [wkt, List.length_cons, hml, List.flatMap_cons, hw0]
        simpa only [List.append_assoc] using ho3
  · cases hok
end Go.Proofs.YtecjbmbphmmlbaaDoor
