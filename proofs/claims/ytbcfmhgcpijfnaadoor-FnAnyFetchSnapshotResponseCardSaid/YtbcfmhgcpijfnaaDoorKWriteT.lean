/-
  Tags of the message, one of them known (a list of structs): written by the code that stands there.
-/
import Derived.Test.YtbcfmhgcpijfnaaDoorKWriteP
set_option linter.unusedVariables false
set_option linter.unusedSimpArgs false
namespace Go.Proofs.Eng
open Go Go.RowKit
theorem Conf.arr_inv2 {sh : List K} {c : CV} (h : Conf (.arr sh) c) : ∃ nl n es, c = .arr nl n es ∧ n < 2147483648 := by
  cases h
  exact ⟨_, _, _, rfl, by assumption⟩
theorem Rep.arr_sl {w : World} {X : Nat → Prop} {v : Value} {nl : Bool} {n : Nat} {es : List CV} (h : Rep w X v (.arr nl n es)) : ∃ A c, v = .slice A n c := by
  cases h <;> exact ⟨_, _, rfl⟩
end Go.Proofs.Eng
namespace Go.Proofs.YtbcfmhgcpijfnaaDoor
open Go Go.RowKit Go.Proofs.Eng
set_option maxRecDepth 20000
set_option maxHeartbeats 8000000
theorem hwT_ok {T : Tab} (hT : TabOK Tryd.prog T) (hC : Conts Tryd.prog T) (htB : T.tB = 5) {ver : Int} {n0 : Nat} {body : WP}
    (hx : execW T [] 397 n0 none [shTop] (sgLs ver) [.code codeLs1, .code codeLs2] = some (.alen .cal 4 (.loop 4 4 body .nil))) : HContract Tryd.prog 5 (hookWrT ver body) := by
  intro w base sh L d bs a Q k hL hok hn hd hv h1 hkn hown hbase hsz hQ
  have hn : a.tmps.size = 397 := hn
  have hv : a.eval (.tmp 0) = .pointer (some ⟨L.b, L.o, none⟩) := hv
  have hfx : a.eval (.tmp 6) = .bool true := hkn (6, .bool true) (by simp [hookWrT])
  have hve : a.eval (.tmp 5) = .int .i16 ver := hkn (5, .int .i16 ver) (by simp [hookWrT])
  obtain rfl : sh = shTop := lEq_ok (fun h => kEqF_ok 10 h) hok
  obtain ⟨hlen, hconf⟩ := hL.conf
  have hlen : L.cs.length = 6 := hlen
  have hvl : L.vals.length = 6 := hL.len
  obtain ⟨c4, hc4⟩ : ∃ c, L.cs[4]? = some c := ⟨_, List.getElem?_eq_getElem (by omega)⟩
  obtain ⟨c5, hc5⟩ : ∃ c, L.cs[5]? = some c := ⟨_, List.getElem?_eq_getElem (by omega)⟩
  obtain ⟨u4, hu4⟩ : ∃ c, L.vals[4]? = some c := ⟨_, List.getElem?_eq_getElem (by omega)⟩
  obtain ⟨u5, hu5⟩ : ∃ c, L.vals[5]? = some c := ⟨_, List.getElem?_eq_getElem (by omega)⟩
  obtain ⟨nl, n, es, rfl, hn31⟩ := (hconf 4 c4 _ hc4 rfl).arr_inv2
  obtain ⟨tl, rfl, t1, t2, t3, _⟩ := (hconf 5 c5 _ hc5 rfl).tags_inv
  obtain ⟨A4, q4, rfl⟩ := (hL.rep 4 u4 _ hu4 hc4).arr_sl
  have hrep5 := hL.rep 5 u5 _ hu5 hc5
  have hlt := hL.lt
  have hcell : ∀ (w' : World), Below base w w' → ∀ (o : Nat) (v : Value), L.vals[o]? = some v → w'.cell? ⟨L.b, L.o + o, none⟩ = some v := fun w' hb o v hv => (hb.cell (p := ⟨L.b, L.o + o, none⟩) hlt).trans (hL.cell o v hv)
  have hvk : (L.cs.drop 4).take 1 = [.arr nl n es] := by
    rw [List.take_one, List.head?_drop, hc4]
    rfl
  obtain ⟨ls, hls⟩ : ∃ ls, runW (.alen .cal 0 (.loop 0 4 body .nil)) [.arr nl n es] = ls := ⟨_, rfl⟩
  have hrun : runW (.alen .cal 4 (.loop 4 4 body .nil)) L.cs = ls := by
    rw [← hls]
    simp only [runW]
    rw [hc4]
    rfl
  have hpr : present [.arr nl n es] = !(Nat.beq n 0) := by
    show (!(Nat.beq n 0 && true)) = _
    rw [Bool.and_true]
  have hout : hkOut (hookWrT ver body) L.cs = wkt (ktl (!(Nat.beq n 0)) ls tl) := by
    show wkt (ktl (present ((L.cs.drop 4).take 1)) (runW (.alen .cal 0 (.loop 0 4 body .nil)) ((L.cs.drop 4).take 1)) (tagsOf L.cs[5]?)) = _
    rw [hvk, hls, hpr, hc5]
    rfl
  rw [hout] at hsz hQ
  have hconfT : Conf (.tags false) (.tags tl) := .tags _ _ t1 t2 t3 (fun h => by cases h)
  have hsame : ∀ (a' : Act) (σ : Sv), Knows 397 σ a' → Eng.look σ 0 = some (.pointer (some ⟨L.b, L.o, none⟩)) → Eng.look σ 6 = some (.bool true) → Eng.look σ 5 = some (.int .i16 ver) → Fr (0 :: 6 :: 5 :: wrWT) (tauOf (0 :: 6 :: 5 :: wrWT) 397 a) σ → ∀ t, t ∉ wrC codeWrT → a'.eval (.tmp t) = a.eval (.tmp t) := by
    intro a' σ hk h2 h6 h5 hF t ht
    by_cases e2 : t = 0
    · subst e2; rw [hk.2.2 _ _ h2, hv]
    · by_cases e3 : t = 6
      · subst e3; rw [hk.2.2 _ _ h6, hfx]
      · by_cases e4 : t = 5
        · subst e4; rw [hk.2.2 _ _ h5, hve]
        · refine hook_same hk hn hF t ?_
          have h3 : has wrWT t = false := by
            cases hh : has wrWT t with
            | false => rfl
            | true => exact absurd (has_iff.1 (allB_mem supWT t (has_iff.1 hh))) ht
          simp only [has, h3, Bool.or_false, Bool.or_eq_false_iff]
          exact ⟨beq_ne (Ne.symm e2), beq_ne (Ne.symm e3), beq_ne (Ne.symm e4)⟩
  suffices key : wk Tryd.prog (Qh Tryd.prog Q k) 397 ([(0, .pointer (some ⟨L.b, L.o, none⟩)), (6, .bool true), (5, .int .i16 ver), (1, d)] ++ tauOf (0 :: 6 :: 5 :: wrWT) 397 a) [.code codeWrT] w from
    hook_wk key (hook_start hn hd (by
      intro p hp
      simp only [List.mem_cons, List.not_mem_nil, or_false] at hp
      rcases hp with rfl | rfl | rfl | rfl
      · exact hv
      · exact hfx
      · exact hve
      · exact h1))
  have hτ0 : ∀ t v, Eng.look (tauOf (0 :: 6 :: 5 :: wrWT) 397 a) t = some v → has (0 :: 6 :: 5 :: wrWT) t = false := fun t v h => (tau_inv h).1
  generalize tauOf (0 :: 6 :: 5 :: wrWT) 397 a = τ at hsame hτ0 ⊢
  have hτL : ∀ t v, Eng.look τ t = some v → has wrLs t = false := by
    intro t v h
    have h2 := hτ0 t v h
    simp only [has, Bool.or_eq_false_iff] at h2
    cases hh : has wrLs t with
    | false => rfl
    | true =>
      have := allB_mem subLs2 t (has_iff.1 hh)
      rw [h2.2.2.2] at this
      cases this
  -- the list, written once
  have hpass : ∀ {Q' : Exit → Act → World → Prop} {k' : List TD} {σ σ' : Sv} {w1 : World} {d1 : Value} {bs1 : List UInt8}, Own w1 base 5 d1 bs1 → Below base w w1 → bs1.length + ls.length ≤ lim →
      Eng.look σ 1 = some d1 → Eng.look σ 35 = some (.slice A4 n q4) → Eng.look σ 6 = some (.bool true) → Eng.look σ 5 = some (.int .i16 ver) → (∀ t v, Eng.look σ' t = some v → Eng.look σ t = some v ∧ has wrLs t = false) →
      (∀ w2 d2, Own w2 base 5 d2 (bs1 ++ ls) → Below base w1 w2 → wk Tryd.prog Q' 397 ((1, d2) :: σ') k' w2) → wk Tryd.prog Q' 397 σ (.code codeLs1 :: .code codeLs2 :: k') w1 := by
    intro Q' k' σ σ' w1 d1 bs1 ho1 hb1 hs1 l1 l35 l6 l5 hσ' hok'
    refine wk_execW hT hC hx subLs (hL.below hb1) (by rw [htB]; exact ho1) (Nat.le_trans hbase hb1.size) (by rw [hrun]; exact hs1) ?_ hσ' ?_
    · intro t x hm
      simp only [sgLs, List.mem_cons, Prod.mk.injEq, List.not_mem_nil, or_false] at hm
      rcases hm with ⟨rfl, rfl⟩ | ⟨rfl, rfl⟩ | ⟨rfl, rfl⟩ | ⟨rfl, rfl⟩
      · exact ⟨_, l1, rfl⟩
      · exact ⟨_, l35, L, rfl, (by show 4 + 1 ≤ L.vals.length; omega), (show 1 = 1 ∧ L.vals[4]? = some (.slice A4 n q4) from ⟨rfl, hu4⟩)⟩
      · exact ⟨_, l6, rfl⟩
      · exact ⟨_, l5, rfl⟩
    · intro w2 d2 ho2 hb2
      rw [hrun, htB] at ho2
      exact hok' w2 d2 ho2 hb2
  show wk Tryd.prog (Qh Tryd.prog Q k) 397 ((0, .pointer (some ⟨L.b, L.o, none⟩)) :: (6, .bool true) :: (5, .int .i16 ver) :: (1, d) :: τ) [.code codeWrT] w
  by_cases hz : n = 0
  · subst hz
    have e0 : ktl (!(Nat.beq 0 0)) ls tl = tl := rfl
    rw [e0] at hsz hQ
    have hml : tl.length % 4294967296 = tl.length := Nat.mod_eq_of_lt (by omega)
    have hlo : (wkt tl).length = (uv tl.length).length + (tl.flatMap wtag).length := by rw [wkt, List.length_append, hml]
    have cl : cmp .lss ((0 : Nat) : Int) ((0 : Nat) : Int) = some false := rfl
    have cg : cmp .gtr ((0 : Nat) : Int) 0 = some false := rfl
    have hcount : IntKind.u32.wrap (IntKind.i64.wrap (((0 : Nat) : Int) + (tl.length : Int))) = ((tl.length : Nat) : Int) := by
      rw [i64wr _ (by omega) (by omega), show ((0 : Nat) : Int) + (tl.length : Int) = (tl.length : Int) by omega]
      exact u32n tl.length (by omega)
    refine wk_seq ?_
    refine wk_reg (id := 81) ?_
    refine wk_assign rfl rfl ?_
    refine wk_nil ?_
    refine wk_seq ?_
    refine wk_seq ?_
    refine wk_reg (id := 82) ?_
    refine wk_move rfl rfl ?_
    refine wk_nilCheck rfl rfl ?_
    refine wk_field (f := 4) (i := Tryd.t39) rfl Tryd.underlying44 rfl (by kernel_rfl) (by decide) rfl ?_
    refine wk_load (v := .slice A4 0 q4) rfl Tryd.underlying39 rfl (hcell w (Below.refl _ _) 4 _ hu4) rfl ?_
    refine wk_slen rfl Tryd.underlying39 rfl ?_
    refine wk_cmp rfl rfl (by with_reducible assumption) rfl ?_
    refine wk_nil ?_
    refine wk_condF rfl ?_
    refine wk_skip ?_
    refine wk_seq ?_
    refine wk_reg (id := 84) ?_
    refine wk_move rfl rfl ?_
    refine wk_move rfl rfl ?_
    refine wk_slen rfl Tryd.underlying66 rfl ?_
    refine wk_move rfl rfl ?_
    refine wk_nilCheck rfl rfl ?_
    refine wk_field (f := 5) (i := Tryd.t42) rfl Tryd.underlying44 rfl (by kernel_rfl) (by decide) rfl ?_
    refine wk_call Tryd.call23 (vs := [.pointer (some ⟨L.b, L.o + 5, none⟩)]) rfl rfl ((c_TagsLen w _ L.b (L.o + 5) u5 tl (hcell w (Below.refl _ _) 5 u5 hu5) hrep5 (by omega)).mono ?_)
    rintro e w2 ⟨rfl, rfl⟩
    refine ⟨_, rfl, ?_⟩
    refine wk_add rfl rfl rfl ?_
    refine wk_convV rfl Tryd.underlying3 Tryd.underlying64 (by with_reducible assumption) rfl ?_
    refine wk_call Tryd.call22 (vs := [d, .int .u32 ((tl.length : Nat) : Int)]) rfl rfl ((AppendUvarint_any w2 base d bs tl.length hown hbase (by omega) (by omega)).mono ?_)
    rintro e w3 ⟨d3, rfl, ho3, hb3⟩
    refine ⟨_, rfl, ?_⟩
    refine wk_assign rfl rfl ?_
    refine wk_nil ?_
    refine wk_seq ?_
    refine wk_seq ?_
    refine wk_reg (id := 85) ?_
    refine wk_move rfl rfl ?_
    refine wk_slen rfl Tryd.underlying66 rfl ?_
    refine wk_move rfl rfl ?_
    refine wk_nil ?_
    refine wk_loopW (fun _ : Unit => [(0, .pointer (some ⟨L.b, L.o, none⟩)), (6, .bool true), (5, .int .i16 ver), (1, d3), (299, .slice none 0 0), (300, .int .i64 ((0 : Nat) : Int)), (301, .int .i64 ((0 : Nat) : Int))] ++ τ) (fun _ w' => w' = w3) (fun _ => 0) () (pre_sub hτ0 rfl (by repeat (first | exact Fr.base | refine Fr.step rfl ?_))) rfl ?_
    rintro _ w' rfl
    show wk Tryd.prog _ 397 ((0, .pointer (some ⟨L.b, L.o, none⟩)) :: (6, .bool true) :: (5, .int .i16 ver) :: (1, d3) :: (299, .slice none 0 0) :: (300, .int .i64 ((0 : Nat) : Int)) :: (301, .int .i64 ((0 : Nat) : Int)) :: τ) _ w'
    refine wk_seq ?_
    refine wk_reg (id := 86) ?_
    refine wk_cmp rfl rfl (by with_reducible assumption) rfl ?_
    refine wk_nil ?_
    refine wk_seq ?_
    refine wk_condF rfl ?_
    refine wk_loopExit ?_
    refine wk_reg (id := 120) ?_
    refine wk_move rfl rfl ?_
    refine wk_nilCheck rfl rfl ?_
    refine wk_field (f := 5) (i := Tryd.t42) rfl Tryd.underlying44 rfl (by kernel_rfl) (by decide) rfl ?_
    refine wk_move rfl rfl ?_
    refine wk_call Tryd.call24 (vs := [.pointer (some ⟨L.b, L.o + 5, none⟩), d3]) rfl rfl ((c_AppendEach w' base L.b (L.o + 5) d3 u5 (bs ++ uv tl.length) tl ho3 (Nat.le_trans hbase hb3.size) hlt (hcell w' hb3 5 u5 hu5) (hrep5.keep (Keeps.of_below hb3)) hconfT (by rw [List.length_append]; omega)).mono ?_)
    rintro e w4 ⟨d4, rfl, ho4, hb4⟩
    refine ⟨_, rfl, ?_⟩
    refine wk_assign rfl rfl ?_
    refine wk_nil ?_
    refine wk_raw (fun a' ha' => ?_)
    show wpT Tryd.prog Q k a' w4
    refine hQ a' w4 d4 ⟨ha'.1, ha'.2.1.trans hd.symm, hsame a' _ ha' rfl rfl rfl (by repeat (first | exact Fr.base | refine Fr.step rfl ?_)), ?_, hb3.trans hb4⟩ (ha'.2.2 1 _ rfl)
    rw [wkt, hml, ← List.append_assoc]
    exact ho4
  · have hbz : Nat.beq n 0 = false := beq_ne hz
    rw [hbz] at hsz hQ
    have e0 : ktl (!false) ls tl = (0, ls) :: tl := rfl
    rw [e0] at hsz hQ
    have hml : (tl.length + 1) % 4294967296 = tl.length + 1 := Nat.mod_eq_of_lt (by omega)
    obtain ⟨nb, hnb⟩ : ∃ nb, ls.length = nb := ⟨_, rfl⟩
    obtain ⟨nm, hnm⟩ : ∃ nm, nb % 4294967296 = nm := ⟨_, rfl⟩
    have hnl : nm < 4294967296 := by omega
    have hw0 : wtag (0, ls) = uv 0 ++ (uv nm ++ ls) := by
      simp only [wtag]
      rw [hnb, hnm]
    have hlo : (wkt ((0, ls) :: tl)).length = (uv (tl.length + 1)).length + (((uv 0).length + ((uv nm).length + nb)) + (tl.flatMap wtag).length) := by
      rw [wkt, List.length_append, List.length_cons, hml, List.flatMap_cons, List.length_append, hw0, List.length_append, List.length_append, hnb]
    have hcount : IntKind.u32.wrap (IntKind.i64.wrap (((1 : Nat) : Int) + (tl.length : Int))) = ((tl.length + 1 : Nat) : Int) := by
      rw [i64wr _ (by omega) (by omega), show ((1 : Nat) : Int) + (tl.length : Int) = ((tl.length + 1 : Nat) : Int) by omega]
      exact u32n (tl.length + 1) (by omega)
    have cg : cmp .gtr (n : Int) 0 = some true := by simp only [cmp, Option.some.injEq, decide_eq_true_eq]; omega
    refine wk_seq ?_
    refine wk_reg (id := 81) ?_
    refine wk_assign rfl rfl ?_
    refine wk_nil ?_
    refine wk_seq ?_
    refine wk_seq ?_
    refine wk_reg (id := 82) ?_
    refine wk_move rfl rfl ?_
    refine wk_nilCheck rfl rfl ?_
    refine wk_field (f := 4) (i := Tryd.t39) rfl Tryd.underlying44 rfl (by kernel_rfl) (by decide) rfl ?_
    refine wk_load (v := .slice A4 n q4) rfl Tryd.underlying39 rfl (hcell w (Below.refl _ _) 4 _ hu4) rfl ?_
    refine wk_slen rfl Tryd.underlying39 rfl ?_
    refine wk_cmp rfl rfl (by with_reducible assumption) rfl ?_
    refine wk_nil ?_
    refine wk_condT rfl ?_
    refine wk_reg (id := 83) ?_
    refine wk_move rfl rfl ?_
    refine wk_bsU (n := 0) u32T rfl rfl rfl ?_
    refine wk_appendU (base := w.heap.size) (q := 0) (u := .int .u32 0) u32T rfl rfl (World.ownsRow_nil _ _ _ _) (cell_blk (heap_alloc_new w _) rfl) rfl (by omega) (by simp) rfl ?_
    intro v1 w3 ho1 hg1
    have hb3' : Below w.heap.size w w3 := by
      have h := below1 w (.cells #[.int .u32 0] 64)
      exact ⟨hg1.os.trans h.os, hg1.tape.trans h.tape, hg1.output.trans h.output, Nat.le_trans h.size hg1.size, fun q hq => (hg1.block q (by simp; omega) (by simp [Value.ownBlock])).trans (h.block q hq)⟩
    obtain ⟨g, cap, cur, rfl, hgb, hcur, hcap, htk⟩ : ∃ g cap cur, v1 = .slice (some ⟨g, 0, none⟩) 1 cap ∧ w.heap.size ≤ g ∧ w3.heap[g]? = some (.cells cur 64 (0, 0)) ∧ 1 ≤ cap ∧ cur.toList.take (1 * 1) = [.int .u32 0] := by
      rcases ho1.2 with ⟨_, h0⟩ | ⟨g, cap, cur, h1, h2, h3, h4, _, _, h5⟩
      · omega
      · exact ⟨g, cap, cur, h1, h2, h3, h4, h5⟩
    have hown3 : Own w3 base 5 d bs := hown.below hb3'
    have hb3 : Below base w w3 := hb3'.mono hbase
    have hbs3 : base ≤ w3.heap.size := Nat.le_trans hbase hb3.size
    refine wk_assign rfl rfl ?_
    refine wk_nil ?_
    refine wk_seq ?_
    refine wk_reg (id := 84) ?_
    refine wk_move rfl rfl ?_
    refine wk_move rfl rfl ?_
    refine wk_slen rfl Tryd.underlying66 rfl ?_
    refine wk_move rfl rfl ?_
    refine wk_nilCheck rfl rfl ?_
    refine wk_field (f := 5) (i := Tryd.t42) rfl Tryd.underlying44 rfl (by kernel_rfl) (by decide) rfl ?_
    refine wk_call Tryd.call23 (vs := [.pointer (some ⟨L.b, L.o + 5, none⟩)]) rfl rfl ((c_TagsLen w3 _ L.b (L.o + 5) u5 tl (hcell w3 hb3 5 u5 hu5) (hrep5.keep (Keeps.of_below hb3)) (by omega)).mono ?_)
    rintro e w3' ⟨rfl, rfl⟩
    refine ⟨_, rfl, ?_⟩
    refine wk_add rfl rfl rfl ?_
    refine wk_convV rfl Tryd.underlying3 Tryd.underlying64 (by with_reducible assumption) rfl ?_
    refine wk_call Tryd.call22 (vs := [d, .int .u32 ((tl.length + 1 : Nat) : Int)]) rfl rfl ((AppendUvarint_grow w3' base d bs (tl.length + 1) hown3 hbs3 (by omega) (by omega)).mono ?_)
    rintro e w4 ⟨d4, rfl, ho4, hg4⟩
    refine ⟨_, rfl, ?_⟩
    have hb4 : Below base w w4 := hb3.trans (below_of_grown hown3 hbs3 hg4)
    have hcur4 := KeptT.grown hown3 hg4 g _ _ _ (by decide) (by decide) hcur
    have hcg : w4.cell? ⟨g, 0 + 0 * Tryd.t64.size, none⟩ = some (.int .u32 0) := by
      refine cell_blk (j := 0) hcur4 ?_
      have h5 : (cur.toList.take 1)[0]? = [Value.int .u32 0][0]? := by rw [htk]
      rw [List.getElem?_take_of_lt (by omega)] at h5
      exact h5
    have hbs4 : base ≤ w4.heap.size := Nat.le_trans hbase hb4.size
    refine wk_assign rfl rfl ?_
    refine wk_nil ?_
    refine wk_seq ?_
    refine wk_seq ?_
    refine wk_reg (id := 85) ?_
    refine wk_move rfl rfl ?_
    refine wk_slen rfl Tryd.underlying66 rfl ?_
    refine wk_move rfl rfl ?_
    refine wk_nil ?_
    refine wk_loopW (fun i : Nat × Value => [(0, .pointer (some ⟨L.b, L.o, none⟩)), (6, .bool true), (5, .int .i16 ver), (1, i.2), (299, .slice (some ⟨g, 0, none⟩) 1 cap), (300, .int .i64 ((1 : Nat) : Int)), (301, .int .i64 (i.1 : Int))] ++ τ)
      (fun i w' => (i.1 = 0 ∧ i.2 = d4 ∧ w' = w4) ∨ (i.1 = 1 ∧ Own w' base 5 i.2 (bs ++ uv (tl.length + 1) ++ uv 0 ++ uv nm ++ ls) ∧ Below base w w')) (fun i => 1 - i.1) (0, d4) (pre_sub hτ0 rfl (by repeat (first | exact Fr.base | refine Fr.step rfl ?_))) (.inl ⟨rfl, rfl, rfl⟩) ?_
    rintro ⟨qi, dq⟩ wq hcase
    simp only at hcase
    show wk Tryd.prog _ 397 ((0, .pointer (some ⟨L.b, L.o, none⟩)) :: (6, .bool true) :: (5, .int .i16 ver) :: (1, dq) :: (299, .slice (some ⟨g, 0, none⟩) 1 cap) :: (300, .int .i64 ((1 : Nat) : Int)) :: (301, .int .i64 (qi : Int)) :: τ) _ wq
    rcases hcase with ⟨rfl, rfl, rfl⟩ | ⟨rfl, hoq, hbq⟩
    · have cl : cmp .lss ((0 : Nat) : Int) ((1 : Nat) : Int) = some true := rfl
      have ce : cmp .eql 0 0 = some true := rfl
      refine wk_seq ?_
      refine wk_reg (id := 86) ?_
      refine wk_cmp rfl rfl (by with_reducible assumption) rfl ?_
      refine wk_nil ?_
      refine wk_seq ?_
      refine wk_condT rfl ?_
      refine wk_skip ?_
      refine wk_seq ?_
      refine wk_block ?_
      refine wk_seq ?_
      refine wk_reg (id := 87) ?_
      refine wk_idx (i := Tryd.t64) (b := g) (off := 0) (n := 1) (c := cap) (j := 0) rfl rfl Tryd.underlying66 (by kernel_rfl) (by omega) rfl ?_
      refine wk_load (v := .int .u32 0) rfl Tryd.underlying64 rfl hcg rfl ?_
      refine wk_assign rfl rfl ?_
      refine wk_nil ?_
      refine wk_seq ?_
      refine wk_reg (id := 88) ?_
      refine wk_move rfl rfl ?_
      refine wk_nil ?_
      refine wk_block ?_
      refine wk_seq ?_
      refine wk_reg (id := 89) ?_
      refine wk_cmp rfl rfl (by with_reducible assumption) rfl ?_
      refine wk_assign rfl rfl ?_
      refine wk_nil ?_
      refine wk_condT rfl ?_
      -- the list is written twice
      refine wk_scope 1 (fun a w' => ∃ dJ, Knows 397 ([(0, .pointer (some ⟨L.b, L.o, none⟩)), (6, .bool true), (5, .int .i16 ver), (1, dJ), (35, .slice A4 n q4), (36, .bool true), (299, .slice (some ⟨g, 0, none⟩) 1 cap), (300, .int .i64 ((1 : Nat) : Int)), (301, .int .i64 ((0 : Nat) : Int))] ++ τ) a ∧
        Own w' base 5 dJ (bs ++ uv (tl.length + 1) ++ uv 0 ++ uv nm) ∧ Below base w w') rfl ?_ ?_
      · refine wk_seq ?_
        refine wk_reg (id := 90) ?_
        refine wk_move rfl rfl ?_
        refine wk_nilCheck rfl rfl ?_
        refine wk_field (f := 4) (i := Tryd.t39) rfl Tryd.underlying44 rfl (by kernel_rfl) (by decide) rfl ?_
        refine wk_load (v := .slice A4 n q4) rfl Tryd.underlying39 rfl (hcell _ hb4 4 _ hu4) rfl ?_
        refine wk_assign rfl rfl ?_
        refine wk_nil ?_
        refine wk_seq ?_
        refine wk_reg (id := 91) ?_
        refine wk_move rfl rfl ?_
        refine wk_call Tryd.call22 (vs := [dq, .int .u32 ((0 : Nat) : Int)]) rfl rfl ((AppendUvarint_grow wq base dq _ 0 ho4 hbs4 (by omega) (by rw [List.length_append]; omega)).mono ?_)
        rintro e w6 ⟨d6, rfl, ho6, hg6⟩
        refine ⟨_, rfl, ?_⟩
        have hb6 : Below base w w6 := hb4.trans (below_of_grown ho4 hbs4 hg6)
        have hbs6 : base ≤ w6.heap.size := Nat.le_trans hbase hb6.size
        obtain ⟨n6, hn6⟩ : ∃ n, (bs ++ uv (tl.length + 1) ++ uv 0).length = n := ⟨_, rfl⟩
        obtain ⟨A6, c6, rfl⟩ := own_form ho6
        rw [hn6] at ho6 ⊢
        refine wk_assign rfl rfl ?_
        refine wk_nil ?_
        refine wk_seq ?_
        refine wk_reg (id := 92) ?_
        refine wk_assign rfl rfl ?_
        refine wk_nil ?_
        refine wk_seq ?_
        refine wk_reg (id := 93) ?_
        refine wk_move rfl rfl ?_
        refine wk_slen rfl Tryd.underlying22 rfl ?_
        refine wk_assign rfl rfl ?_
        refine wk_nil ?_
        refine wk_seq ?_
        refine wk_label ?_
        refine wk_seq ?_
        refine wk_seq2 ?_
        refine hpass (σ' := [(0, .pointer (some ⟨L.b, L.o, none⟩)), (6, .bool true), (5, .int .i16 ver), (35, .slice A4 n q4), (36, .bool false), (37, .int .i64 (n6 : Int)), (299, .slice (some ⟨g, 0, none⟩) 1 cap), (300, .int .i64 ((1 : Nat) : Int)), (301, .int .i64 ((0 : Nat) : Int))] ++ τ) ho6 hb6 (by rw [hn6]; simp only [List.length_append] at hn6; omega) rfl rfl rfl rfl ?_ ?_
        · intro t v h
          refine ⟨pre_sub (pre := [(0, .pointer (some ⟨L.b, L.o, none⟩)), (6, .bool true), (5, .int .i16 ver), (35, .slice A4 n q4), (36, .bool false), (37, .int .i64 (n6 : Int)), (299, .slice (some ⟨g, 0, none⟩) 1 cap), (300, .int .i64 ((1 : Nat) : Int)), (301, .int .i64 ((0 : Nat) : Int))]) hτ0 rfl (by repeat (first | exact Fr.base | refine Fr.step rfl ?_)) t v h, ?_⟩
          rcases look_append h with h | h
          · have hm := look_mem h
            simp only [List.mem_cons, Prod.mk.injEq, List.not_mem_nil, or_false] at hm
            rcases hm with ⟨rfl, _⟩ | ⟨rfl, _⟩ | ⟨rfl, _⟩ | ⟨rfl, _⟩ | ⟨rfl, _⟩ | ⟨rfl, _⟩ | ⟨rfl, _⟩ | ⟨rfl, _⟩ | ⟨rfl, _⟩ <;> rfl
          · exact hτL t v h
        intro w7 d7 ho7 hb7
        have hb7' : Below base w w7 := hb6.trans hb7
        obtain ⟨n7, hn7⟩ : ∃ n, (bs ++ uv (tl.length + 1) ++ uv 0 ++ ls).length = n := ⟨_, rfl⟩
        obtain ⟨A7, c7, rfl⟩ := own_form ho7
        rw [hn7] at ho7 ⊢
        have hn67 : n7 = n6 + nb := by rw [← hn7, List.length_append, hn6, hnb]
        obtain ⟨k1, k2, k3, ho7t, k4⟩ := own_take (m := n6) ho7 (by rw [hn7]; omega)
        have htake : List.take n6 (bs ++ uv (tl.length + 1) ++ uv 0 ++ ls) = bs ++ uv (tl.length + 1) ++ uv 0 := List.take_left' hn6
        rw [htake] at ho7t
        refine wk_seq ?_
        refine wk_reg (id := 116) ?_
        refine wk_move rfl rfl ?_
        refine wk_not rfl rfl ?_
        refine wk_nil ?_
        refine wk_condT rfl ?_
        refine wk_seq ?_
        refine wk_draw (fun _ => True) [(0, true), (1, true), (2, true), (3, true), (4, true), (5, true), (6, true), (7, true), (8, false), (9, false)] mixedR (pqj (pqb (pqb (pql pqh)))) (by kernel_rfl) (by kernel_rfl) (by kernel_rfl) (fun _ _ _ => trivial) ?_
        intro w8 _ hb8'
        have ho8 := ho7t.below hb8'
        have hbs7 : base ≤ w7.heap.size := Nat.le_trans hbase hb7'.size
        have hb8 : Below base w w8 := hb7'.trans (hb8'.mono hbs7)
        have hcv : IntKind.u32.wrap ((n7 - n6 : Nat) : Int) = ((nm : Nat) : Int) := by
          rw [show n7 - n6 = nb by omega, ← hnm]
          exact u32mod nb
        refine wd_move rfl rfl rfl ?_
        refine wd_move rfl rfl rfl ?_
        refine wd_sliceH (m := n6) rfl rfl rfl Tryd.underlying22 (show Tryd.prog.info? 5 = some Tryd.t5 by kernel_rfl) k2 rfl ?_
        refine wd_move rfl rfl rfl ?_
        refine wd_move rfl rfl rfl ?_
        refine wd_sliceL (m := n6) byteT rfl rfl rfl (by omega) rfl ?_
        refine wd_slen rfl rfl Tryd.underlying22 rfl ?_
        refine wd_convV rfl rfl Tryd.underlying3 Tryd.underlying64 hcv rfl ?_
        refine wd_call rfl Tryd.call22 (vs := [.slice A7 n6 c7, .int .u32 ((nm : Nat) : Int)]) rfl rfl ((AppendUvarint_grow w8 base _ _ nm ho8 (Nat.le_trans hbase hb8.size) (by omega) (by rw [hn6]; simp only [List.length_append] at hn6; omega)).mono ?_)
        rintro e w9 ⟨d9, rfl, ho9, hg9⟩
        refine ⟨_, rfl, trivial, ?_⟩
        have hb9 : Below base w w9 := hb8.trans (below_of_grown ho8 (Nat.le_trans hbase hb8.size) hg9)
        refine wd_one (w' := w9) (v := d9) rfl (fun a ha => (run_assign _ _ rfl).trans (by rw [ha.ev rfl])) rfl trivial ?_
        refine wd_done ?_
        refine wk_seq ?_
        refine wk_reg (id := 118) ?_
        refine wk_assign rfl rfl ?_
        refine wk_nil ?_
        exact wk_goto (fun a ha => ⟨d9, ha.weak (pre_sub hτ0 rfl (by repeat (first | exact Fr.base | refine Fr.step rfl ?_))), ho9, hb9⟩)
      · rintro a2 w5 ⟨dJ, hk5, ho5, hb5⟩
        refine wk_at (σ := [(0, .pointer (some ⟨L.b, L.o, none⟩)), (6, .bool true), (5, .int .i16 ver), (1, dJ), (35, .slice A4 n q4), (36, .bool true), (299, .slice (some ⟨g, 0, none⟩) 1 cap), (300, .int .i64 ((1 : Nat) : Int)), (301, .int .i64 ((0 : Nat) : Int))] ++ τ) ?_ hk5
        refine wk_seq ?_
        refine wk_skip ?_
        refine wk_seq ?_
        refine wk_seq2 ?_
        refine hpass (σ' := [(0, .pointer (some ⟨L.b, L.o, none⟩)), (6, .bool true), (5, .int .i16 ver), (35, .slice A4 n q4), (36, .bool true), (299, .slice (some ⟨g, 0, none⟩) 1 cap), (300, .int .i64 ((1 : Nat) : Int)), (301, .int .i64 ((0 : Nat) : Int))] ++ τ) ho5 hb5 (by simp only [List.length_append]; omega) rfl rfl rfl rfl ?_ ?_
        · intro t v h
          refine ⟨pre_sub (pre := [(0, .pointer (some ⟨L.b, L.o, none⟩)), (6, .bool true), (5, .int .i16 ver), (35, .slice A4 n q4), (36, .bool true), (299, .slice (some ⟨g, 0, none⟩) 1 cap), (300, .int .i64 ((1 : Nat) : Int)), (301, .int .i64 ((0 : Nat) : Int))]) hτ0 rfl (by repeat (first | exact Fr.base | refine Fr.step rfl ?_)) t v h, ?_⟩
          rcases look_append h with h | h
          · have hm := look_mem h
            simp only [List.mem_cons, Prod.mk.injEq, List.not_mem_nil, or_false] at hm
            rcases hm with ⟨rfl, _⟩ | ⟨rfl, _⟩ | ⟨rfl, _⟩ | ⟨rfl, _⟩ | ⟨rfl, _⟩ | ⟨rfl, _⟩ | ⟨rfl, _⟩ | ⟨rfl, _⟩ <;> rfl
          · exact hτL t v h
        intro w6 d6 ho6 hb6
        refine wk_seq ?_
        refine wk_reg (id := 116) ?_
        refine wk_move rfl rfl ?_
        refine wk_not rfl rfl ?_
        refine wk_nil ?_
        refine wk_condF rfl ?_
        refine wk_skip ?_
        refine wk_scopeEnd ?_
        skip
        refine wk_blockEnd ?_
        refine wk_blockEnd ?_
        refine wk_reg (id := 119) ?_
        refine wk_add rfl rfl rfl ?_
        refine wk_move rfl rfl ?_
        refine wk_nil ?_
        exact wk_loopNextW (1, d6) (by show 1 - 1 < 1 - 0; omega) (pre_sub hτ0 rfl (by repeat (first | exact Fr.base | refine Fr.step rfl ?_))) (.inr ⟨rfl, ho6, hb5.trans hb6⟩)
    · have cl : cmp .lss ((1 : Nat) : Int) ((1 : Nat) : Int) = some false := rfl
      refine wk_seq ?_
      refine wk_reg (id := 86) ?_
      refine wk_cmp rfl rfl (by with_reducible assumption) rfl ?_
      refine wk_nil ?_
      refine wk_seq ?_
      refine wk_condF rfl ?_
      refine wk_loopExit ?_
      refine wk_reg (id := 120) ?_
      refine wk_move rfl rfl ?_
      refine wk_nilCheck rfl rfl ?_
      refine wk_field (f := 5) (i := Tryd.t42) rfl Tryd.underlying44 rfl (by kernel_rfl) (by decide) rfl ?_
      refine wk_move rfl rfl ?_
      refine wk_call Tryd.call24 (vs := [.pointer (some ⟨L.b, L.o + 5, none⟩), dq]) rfl rfl ((c_AppendEach wq base L.b (L.o + 5) dq u5 _ tl hoq (Nat.le_trans hbase hbq.size) hlt (hcell wq hbq 5 u5 hu5) (hrep5.keep (Keeps.of_below hbq)) hconfT (by simp only [List.length_append]; omega)).mono ?_)
      rintro e w5 ⟨d5, rfl, ho5, hb5⟩
      refine ⟨_, rfl, ?_⟩
      refine wk_assign rfl rfl ?_
      refine wk_nil ?_
      refine wk_raw (fun a' ha' => ?_)
      show wpT Tryd.prog Q k a' w5
      refine hQ a' w5 d5 ⟨ha'.1, ha'.2.1.trans hd.symm, hsame a' _ ha' rfl rfl rfl (by repeat (first | exact Fr.base | refine Fr.step rfl ?_)), ?_, hbq.trans hb5⟩ (ha'.2.2 1 _ rfl)
      rw [wkt, List.length_cons, hml, List.flatMap_cons, hw0]
      simpa only [List.append_assoc] using ho5
end Go.Proofs.YtbcfmhgcpijfnaaDoor
