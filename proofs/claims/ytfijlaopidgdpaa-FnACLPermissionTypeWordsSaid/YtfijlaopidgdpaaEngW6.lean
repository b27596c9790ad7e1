/-
  The executor of writing tells the truth: the theorem.
-/
import Derived.Test.YtfijlaopidgdpaaEngW5
namespace Go.Proofs.Eng
open Go Go.RowKit

theorem then_self {Q : Exit → Act → World → Prop} : Exit.then (Q .normal) Q = Q := by funext e a w; cases e <;> rfl
theorem wpT_one {P : Program} {Q : Exit → Act → World → Prop} {c : Code} {a : Act} {w : World} (h : wpT P Q [.code c] a w) : c.wp P Q a w := by
  have h' : c.wp P (Exit.then (Q .normal) Q) a w := h
  rwa [then_self] at h'

theorem run_add1 {P : Program} {ρ : Operand → Value} {w : World} {o : Oper} {x : Operand} {t t' : TypeId} {n : Nat} (ho : o.op = .binOp .add t x (.const (.int .i64 1)) t') (hc : ρ (.const (.int .i64 1)) = .int .i64 1) (hx : ρ x = .int .i64 n)
    (hn : n < 4611686018427387904) : (execOp ρ o).run P w = .ok (.value (.int .i64 ((n + 1 : Nat) : Int))) w := by
  have hw : IntKind.i64.wrap ((n : Int) + 1) = ((n + 1 : Nat) : Int) := by
    simp only [IntKind.wrap, IntKind.bits, IntKind.signed]
    simp
    omega
  simp [execOp, ho, hx, hc, eqGuard, binOp, Op.intArith, hw]

theorem After.step {a a' : Act} {w w1 w' : World} {base tB nT : Nat} {wr wr' : List Nat} {d' : Value} {bs : List UInt8} {o : Option Nat} {v : Value} (h : After (a.put o v) a' w1 w' base tB nT wr' d' bs)
    (hw : ∀ t, t ∉ wr → t ∉ wr' ∧ some t ≠ o) (hb : Below base w w1) : After a a' w w' base tB nT wr d' bs :=
  ⟨h.size, h.defers.trans (put_defers _ _ _), fun t ht => (h.same t (hw t ht).1).trans (eval_put_far (hw t ht).2), h.own, hb.trans h.below⟩
theorem After.sub {a a' : Act} {w w' : World} {base tB nT : Nat} {wr wr' : List Nat} {d' : Value} {bs : List UInt8} (h : After a a' w w' base tB nT wr' d' bs) (hw : ∀ t, t ∉ wr → t ∉ wr') : After a a' w w' base tB nT wr d' bs :=
  ⟨h.size, h.defers, fun t ht => h.same t (hw t ht), h.own, h.below⟩

theorem getElem_snoc {α : Type} {l : List α} {x : α} {j : Nat} {y : α} (h : l[j]? = some y) : (l ++ [x])[j]? = some y := by
  rw [List.getElem?_append_left (List.getElem?_eq_some_iff.1 h).1]; exact h
theorem Den.snoc {lvs : List Lv} {M : Lv} {d : Value} {x : AV} {v : Value} (h : Den lvs d x v) : Den (lvs ++ [M]) d x v := by
  cases x with
  | cst u => exact h
  | ptr j o => obtain ⟨L, h1, h2⟩ := h; exact ⟨L, getElem_snoc h1, h2⟩
  | fld j o n ag => obtain ⟨L, h1, h2⟩ := h; exact ⟨L, getElem_snoc h1, h2⟩
  | fldc j o k => obtain ⟨L, k', n, h1, h2⟩ := h; exact ⟨L, k', n, getElem_snoc h1, h2⟩
  | dst => exact h
  | len j o => obtain ⟨L, nl, n, es, h1, h2⟩ := h; exact ⟨L, nl, n, es, getElem_snoc h1, h2⟩
  | isn j o => obtain ⟨L, nl, n, es, h1, h2⟩ := h; exact ⟨L, nl, n, es, getElem_snoc h1, h2⟩
  | tagl j o => obtain ⟨L, l, h1, h2⟩ := h; exact ⟨L, l, getElem_snoc h1, h2⟩
  | tagu j o => obtain ⟨L, l, h1, h2⟩ := h; exact ⟨L, l, getElem_snoc h1, h2⟩
  | idx j o => obtain ⟨L, N, n, c, h1, h2, h3⟩ := h; exact ⟨L, N, n, c, getElem_snoc h1, getElem_snoc h2, h3⟩

theorem Env.snoc {w : World} {base : Nat} {shs : List (List K)} {lvs : List Lv} {kn : List (Option Value)} (hE : Env w base shs lvs kn) {sh : List K} {M L : Lv} (hM : LvOK w base sh M) (hL : lvs.getLast? = some L) :
    Env w base (shs ++ [sh]) (lvs ++ [M]) kn := by
  refine ⟨by simp [hE.len], ?_, ?_⟩
  · intro j sh' L' h1 h2
    rcases Nat.lt_trichotomy j shs.length with hj | hj | hj
    · rw [List.getElem?_append_left hj] at h1
      rw [List.getElem?_append_left (by rw [hE.len]; exact hj)] at h2
      exact hE.lv j sh' L' h1 h2
    · subst hj
      rw [List.getElem?_append_right (Nat.le_refl _), Nat.sub_self] at h1
      rw [List.getElem?_append_right (by rw [hE.len]; exact Nat.le_refl _), hE.len, Nat.sub_self] at h2
      cases h1; cases h2
      exact hM
    · rw [List.getElem?_eq_none (by simp; omega)] at h1
      cases h1
  · intro o v L' h1 h2
    refine hE.kn o v L' h1 ?_
    cases lvs with
    | nil => simp at hL
    | cons x r => simpa using h2

theorem wrC_flat (c : Code) : wrC c = (flatC c).flatMap wrC := by
  induction c with
  | seq a b iha ihb => simp only [wrC, flatC, List.flatMap_append, iha, ihb]
  | _ => simp [flatC]

theorem execW_ok {P : Program} {T : Tab} (hT : TabOK P T) (hC : Conts P T) {kn : List (Option Value)} {nT : Nat} :
    ∀ (n : Nat) (res : Option Nat) (shs : List (List K)) (σ : Sg) (todo : List TD) (wp : WP), execW T kn nT n res shs σ todo = some wp →
    ∀ (Q : Exit → Act → World → Prop) (base : Nat) (lvs : List Lv) (w : World) (a : Act) (d : Value) (bs : List UInt8) (L : Lv),
      Env w base shs lvs kn → Gam lvs d σ a → a.tmps.size = nT → lvs.getLast? = some L → Own w base T.tB d bs → base ≤ w.heap.size → bs.length + (runW wp L.cs).length ≤ lim →
      (∀ a' w' d', After a a' w w' base T.tB nT (wrT todo) d' (bs ++ runW wp L.cs) → a'.eval (.tmp (res.getD 1)) = d' → Q (fin res) a' w') → wpT P Q todo a w := by
  intro n
  induction n with
  | zero => intro res shs σ todo wp h; simp [execW] at h
  | succ n ih =>
    intro res shs σ todo wp h Q base lvs w a d bs L hE hG hn hL hown hbase hsz hQ
    have isDst_eq : ∀ {r : Nat}, isDst (look σ r) = true → a.eval (.tmp r) = d := by
      intro r hr
      unfold isDst at hr
      split at hr
      · rename_i hl; exact hG r _ (look_mem hl)
      · cases hr
    cases todo with
    | nil =>
      simp only [execW] at h
      split at h
      · split at h
        · rename_i hd
          cases h
          exact hQ a w d ⟨hn, rfl, fun _ _ => rfl, by simpa [runW] using hown, Below.refl _ _⟩ (isDst_eq hd)
        · cases h
      · cases h
    | cons t k =>
      cases t with
      | ops all l =>
        cases l with
        | nil =>
          simp only [execW] at h
          exact wpT_ops_nil (ih res shs σ k wp h Q base lvs w a d bs L hE hG hn hL hown hbase hsz (fun a' w' d' hA => hQ a' w' d' (hA.sub (fun t ht => by simpa [wrT, wrO] using ht))))
        | cons o l =>
          simp only [execW] at h
          split at h
          · rename_i hd
            have hwr : ∀ t, t ∉ wrT (.ops all (o :: l) :: k) → t ∉ wrT (.ops all l :: k) ∧ some t ≠ o.dst := by
              intro t ht
              simp only [wrT, List.mem_append, not_or] at ht ⊢
              obtain ⟨h1, h2⟩ := wrO_cons ht.1
              exact ⟨⟨h2, ht.2⟩, h1⟩
            split at h
            · cases h
            · rename_i hg
              refine wpT_op_skip (gd_true hG hg) ?_
              exact ih res shs _ _ wp h Q base lvs w _ d bs L hE hG.del (by rw [put_size]; exact hn) hL hown hbase hsz (fun a' w' d' hA => hQ a' w' d' (hA.step hwr (Below.refl _ _)))
            · rename_i hg
              have hg := gd_true hG hg
              split at h
              · rename_i x hx
                obtain ⟨v, hrun, hden⟩ := pop_ok hT hE hG o hx
                refine wpT_value hg hrun ?_
                exact ih res shs _ _ wp h Q base lvs w _ d bs L hE (hG.put hn hd hden) (by rw [put_size]; exact hn) hL hown hbase hsz (fun a' w' d' hA => hQ a' w' d' (hA.step hwr (Below.refl _ _)))
              · split at h
                · rename_i f args ts hop
                  split at h
                  · rename_i hf
                    have hf := Nat.eq_of_beq_eq_true hf
                    subst hf
                    split at h
                    · rename_i x hargs
                      split at h
                      · rename_i j o' hx
                        split at h
                        · rename_i hk
                          obtain ⟨M, hM, hv⟩ := av_ok hG hx
                          obtain ⟨M', v, c, hM', hvv, hcc, hrep, hconf, hcell, hlt⟩ := hE.at hk
                          rw [hM] at hM'; cases hM'
                          obtain ⟨tl, rfl, h1, h2, h3, _⟩ := hconf.tags_inv
                          obtain rfl : args = #[x] := Array.toList_inj.1 hargs
                          refine wpT_enter hg (run_callf hC.tl.2 a.eval rfl o _ _ hop w) ?_
                          simp only [List.map_toArray, List.map_cons, List.map_nil, hv]
                          refine (hC.tl.1 w _ _ _ v tl hcell hrep (by omega)).mono ?_
                          rintro e w1 ⟨rfl, rfl⟩
                          refine ⟨_, rfl, ?_⟩
                          exact ih res shs _ _ wp h Q base lvs _ _ d bs L hE (hG.put hn hd ⟨M, tl, hM, hcc, rfl, by omega⟩) (by rw [put_size]; exact hn) hL hown hbase hsz
                            (fun a' w' d' hA => hQ a' w' d' (hA.step hwr (Below.refl _ _)))
                        · cases h
                      · cases h
                    · cases h
                  · split at h
                    · rename_i wa e hcw hdst
                      split at h
                      · rename_i r hr
                        cases h
                        obtain ⟨hcall, out, hout, hcalls⟩ := callW_ok hC hE hG hop hcw hL hown hbase r hsz
                        refine wpT_enter hg (run_callf hcall a.eval rfl o _ _ hop w) ?_
                        refine hcalls.mono ?_
                        rintro e1 w1 ⟨d1, rfl, hown1, hbel⟩
                        refine ⟨d1, rfl, ?_⟩
                        rw [hout, List.length_append] at hsz
                        refine ih res shs _ _ r hr Q base lvs w1 _ d1 (bs ++ out) L (hE.below hbel) ?_ (by rw [put_size]; exact hn) hL hown1 (Nat.le_trans hbase hbel.size) (by rw [List.length_append]; omega) ?_
                        · rw [hdst] at hd ⊢
                          exact Gam.put (hG.noDst (d' := d1)) hn hd rfl
                        · intro a' w' d' hA
                          refine hQ a' w' d' ?_
                          rw [hout, ← List.append_assoc]
                          exact hA.step hwr hbel
                      · cases h
                    · cases h
                · rename_i t hop
                  split at h
                  · rename_i x t1 x1 y ty1 ps1 af1 id2 ops2 k' hdst
                    split at h
                    · rename_i p z ty2 ps2 af2 q t2 x2 ty3 ps3 af3 rest hops2
                      split at h
                      · rename_i hcond
                        simp only [Bool.and_eq_true, Nat.beq_eq, Bool.not_eq_true', Nat.blt_eq] at hcond
                        obtain ⟨⟨⟨⟨⟨⟨⟨rfl, rfl⟩, rfl⟩, rfl⟩, hpx⟩, hbox⟩, hp⟩, hq⟩ := hcond
                        have hpx : p ≠ x2 := by intro e; subst e; simp at hpx
                        split at h
                        · rename_i j o' n' az m agz hy hz hsz'
                          split at h
                          · rename_i hnm
                            have hnm := Nat.eq_of_beq_eq_true hnm
                            obtain rfl : ops2 = ((⟨some p, .move z, ty2, ps2, af2, none⟩ :: ⟨some q, .load t2 (.tmp x2), ty3, ps3, af3, none⟩ :: rest : List Oper)).toArray := Array.toList_inj.1 (by simpa using hops2)
                            obtain ⟨L1, hL1, hle1, hv1⟩ := av_ok (a := a.put (some x2) (.pointer (some ⟨w.heap.size, 0, none⟩))) (hG.del (o := some x2)) hy
                            simp only [if_true] at hv1
                            obtain ⟨dd, ii, zz, b1, b2, b3, b4, b5⟩ := hT.boxes t2 (has_iff.1 hbox)
                            obtain ⟨_, ii', _, b3', b6, _, _⟩ := hT.sizes t2 m agz (look_mem hsz')
                            rw [b3] at b3'; cases b3'
                            have hj1 : j < shs.length := by have := (List.getElem?_eq_some_iff.1 hL1).1; rw [hE.len] at this; exact this
                            have ok1 := hE.lv j _ L1 (List.getElem?_eq_getElem hj1) hL1
                            have hvl : ((L1.vals.drop o').take n').length = ii.size := by rw [List.length_take, List.length_drop, hnm, b6]; omega
                            have hone : ∀ v ∈ (L1.vals.drop o').take n', v.oneCell' = true := by
                              intro v hv
                              obtain ⟨q', hq'⟩ := List.mem_iff_getElem?.1 hv
                              rw [List.getElem?_take] at hq'
                              split at hq'
                              · rw [List.getElem?_drop] at hq'
                                have hlt : o' + q' < L1.cs.length := by
                                  have := (List.getElem?_eq_some_iff.1 hq').1
                                  have h2 := ok1.conf.1
                                  have h3 := ok1.len
                                  omega
                                exact (ok1.rep _ v _ hq' (List.getElem?_eq_getElem hlt)).oneCell
                              · cases hq'
                            obtain ⟨w1, w2, r1, r2, r3, hbel, hblk⟩ := box_ok (P := P) b1 b2 b3 b4 b5 _ hvl hone w
                            have hx2 : x2 < nT := dlt_lt hd hdst
                            have hev := eval_put_same a x2 (.pointer (some ⟨w.heap.size, 0, none⟩)) (by rw [hn]; exact hx2)
                            refine wpT_value hg (v := .pointer (some ⟨w.heap.size, 0, none⟩)) (w' := w1) ?_ ?_
                            · simp [execOp, hop, r1]
                            rw [hdst]
                            refine wpT_unit (w' := w2) rfl ?_ ?_
                            · simp [execOp, Instr.storeAt, hev, hv1, Instr.sureAddr, r2]
                            refine wpT_ops_nil (wpT_region ?_)
                            have hden := av_ok (a := a.put (some x2) (.pointer (some ⟨w.heap.size, 0, none⟩))) (hG.del (o := some x2)) hz
                            refine wpT_value rfl (run_move _ _ rfl) ?_
                            have hev2 : ((a.put (some x2) (.pointer (some ⟨w.heap.size, 0, none⟩))).put (some p) ((a.put (some x2) (.pointer (some ⟨w.heap.size, 0, none⟩))).eval z)).eval (.tmp x2) = .pointer (some ⟨w.heap.size, 0, none⟩) :=
                              (eval_put_other _ _ _ _ (Ne.symm hpx)).trans hev
                            refine wpT_value (v := .agg ((L1.vals.drop o').take n').toArray) (w' := w2) rfl ?_ ?_
                            · show (execOp (((a.put (some x2) _).put none undef).put (some p) _).eval _).run P w2 = _
                              simp only [execOp, Instr.loadAt, Sem.run_bind, Sem.run_pure]
                              have : ((((a.put (some x2) (.pointer (some ⟨w.heap.size, 0, none⟩))).put none undef).put (some p) (((a.put (some x2) (.pointer (some ⟨w.heap.size, 0, none⟩))).put none undef).eval z)).eval (.tmp x2)) = .pointer (some ⟨w.heap.size, 0, none⟩) := hev2
                              rw [this]
                              simp [Instr.sureAddr, r3]
                            have hG2 : Gam lvs d (sput (sput (sdel σ (some x2)) (some p) az) (some q) (.fld j o' n' true)) (((a.put (some x2) (.pointer (some ⟨w.heap.size, 0, none⟩))).put (some p) ((a.put (some x2) (.pointer (some ⟨w.heap.size, 0, none⟩))).eval z)).put (some q) (.agg ((L1.vals.drop o').take n').toArray)) := by
                              refine Gam.put (nT := nT) (Gam.put (nT := nT) (hG.del (o := some x2)) (by rw [put_size]; exact hn) (by simpa [dlt, Nat.blt_eq] using hp) hden) (by simp only [put_size]; exact hn) (by simpa [dlt, Nat.blt_eq] using hq) ?_
                              exact ⟨L1, hL1, hle1, by simp⟩
                            have hbel0 : Below base w w2 := hbel.mono hbase
                            refine ih res shs _ _ wp h Q base lvs w2 _ d bs L (hE.below hbel0) hG2 (by simp only [put_size]; exact hn) hL (hown.below hbel) (Nat.le_trans hbase hbel0.size) hsz ?_
                            intro a' w' d' hA
                            refine hQ a' w' d' ?_
                            refine After.step (o := some x2) (v := .pointer (some ⟨w.heap.size, 0, none⟩)) (wr' := p :: q :: wrT (.ops (⟨some p, .move z, ty2, ps2, af2, none⟩ :: ⟨some q, .load t2 (.tmp x2), ty3, ps3, af3, none⟩ :: rest : List Oper).toArray rest :: k')) ?_ ?_ hbel0
                            · refine After.step (o := some p) (v := ((a.put (some x2) (.pointer (some ⟨w.heap.size, 0, none⟩))).eval z)) (wr' := q :: wrT (.ops (⟨some p, .move z, ty2, ps2, af2, none⟩ :: ⟨some q, .load t2 (.tmp x2), ty3, ps3, af3, none⟩ :: rest : List Oper).toArray rest :: k')) ?_ ?_ (Below.refl _ _)
                              · exact After.step (o := some q) hA (fun t ht => by simp only [List.mem_cons, not_or] at ht; exact ⟨ht.2, fun e => ht.1 (by cases e; rfl)⟩) (Below.refl _ _)
                              · intro t ht
                                simp only [List.mem_cons, not_or] at ht ⊢
                                exact ⟨ht.2, fun e => ht.1 (by cases e; rfl)⟩
                            · intro t ht
                              simp only [wrT, wrC, wrO, List.filterMap_cons, List.filterMap_nil, hdst, List.mem_append, List.mem_cons, List.not_mem_nil, or_false, not_or] at ht ⊢
                              refine ⟨⟨ht.2.1.1, ht.2.1.2.1, ht.2.1.2.2, ht.2.2⟩, fun e => ht.1 (by cases e; rfl)⟩
                          · cases h
                        · cases h
                      · cases h
                    · cases h
                  · cases h
                · cases h
          · cases h
      | code c =>
        cases c with
        | skip =>
          simp only [execW] at h
          exact wpT_skip (ih res shs σ k wp h Q base lvs w a d bs L hE hG hn hL hown hbase hsz (fun a' w' d' hA => hQ a' w' d' (hA.sub (fun t ht => by simpa [wrT, wrC] using ht))))
        | seq x y =>
          simp only [execW] at h
          exact wpT_seq (ih res shs σ _ wp h Q base lvs w a d bs L hE hG hn hL hown hbase hsz (fun a' w' d' hA => hQ a' w' d' (hA.sub (fun t ht => by simpa [wrT, wrC, and_assoc] using ht))))
        | region id ops draw =>
          cases draw with
          | true => simp [execW] at h
          | false =>
            simp only [execW] at h
            exact wpT_region (ih res shs σ _ wp h Q base lvs w a d bs L hE hG hn hL hown hbase hsz (fun a' w' d' hA => hQ a' w' d' (hA.sub (fun t ht => by simpa [wrT, wrC] using ht))))
        | cond c x y =>
          simp only [execW] at h
          split at h
          · rename_i hc
            refine wpT_cond (av_ok hG hc) ?_
            exact ih res shs σ _ wp h Q base lvs w a d bs L hE hG hn hL hown hbase hsz (fun a' w' d' hA => hQ a' w' d' (hA.sub (fun t ht => by simp only [wrT, wrC, List.mem_append, not_or] at ht ⊢; exact ⟨ht.1.1, ht.2⟩)))
          · rename_i hc
            refine wpT_cond (av_ok hG hc) ?_
            exact ih res shs σ _ wp h Q base lvs w a d bs L hE hG hn hL hown hbase hsz (fun a' w' d' hA => hQ a' w' d' (hA.sub (fun t ht => by simp only [wrT, wrC, List.mem_append, not_or] at ht ⊢; exact ⟨ht.1.2, ht.2⟩)))
          · cases h
        | ret =>
          simp only [execW] at h
          split at h
          · rename_i r
            split at h
            · rename_i hd
              cases h
              exact wpT_ret (hQ a w d ⟨hn, rfl, fun _ _ => rfl, by simpa [runW] using hown, Below.refl _ _⟩ (isDst_eq hd))
            · cases h
          · cases h
        | block id body =>
          cases body with
          | loop b =>
            simp only [execW] at h
            split at h
            · cases h
            · rename_i i m c s bd hloop
              obtain ⟨r1, r2, id2, t1, t2, t3, t4, ps1, ps2, ps3, y1, y2, y3, e1, e2, e3, hflat, nci, ncm, nsi, nsm, nim, nib, nmb, ni1, nc1, ns1⟩ := asLoopW_inv hloop
              simp only at hflat nci ncm nsi nsm nim nib nmb ni1 nc1 ns1
              have hwrb := wrC_flat b
              rw [hflat] at hwrb
              have wci : c ∈ wrC b := by rw [hwrb]; simp [wrC, wrO]
              have wii : i ∈ wrC b := by rw [hwrb]; simp [wrC, wrO]
              have wsi : s ∈ wrC b := by rw [hwrb]; simp [wrC, wrO]
              have wbd : ∀ q, q ∈ wrC bd → q ∈ wrC b := by intro q hq; rw [hwrb]; simp [wrC, wrO, hq]
              split at h
              · rename_i hlts
                simp only [Bool.and_eq_true, Nat.blt_eq] at hlts
                obtain ⟨⟨hi, hc⟩, hs⟩ := hlts
                split at h
                · -- no round
                  rename_i hli hlm
                  refine wp_block (wp_loop_once (wpT_one ?_))
                  refine wpT_flat b ?_
                  rw [hflat]
                  refine wpT_region ?_
                  refine wpT_value rfl (run_cmp (k := .i64) (p := 0) (q := 0) (b := false) rfl (hG _ _ (look_mem hli)) (hG _ _ (look_mem hlm)) rfl) (wpT_ops_nil ?_)
                  refine wpT_cond (b := false) (eval_put_same _ _ _ (by rw [hn]; exact hc)) ?_
                  refine wp_exit ?_
                  simp only [Exit.then, Exit.inBlock, if_true]
                  refine ih res shs _ k wp h Q base lvs w _ d bs L hE hG.del (by rw [put_size]; exact hn) hL hown hbase hsz (fun a' w' d' hA => hQ a' w' d' (hA.step ?_ (Below.refl _ _)))
                  intro t ht
                  simp only [wrT, wrC, List.mem_append, not_or] at ht
                  exact ⟨ht.2, fun e => ht.1 (by cases e; exact wci)⟩
                · rename_i j o hli hlm
                  split at h
                  · rename_i hld
                    simp only [Bool.and_eq_true] at hld
                    obtain ⟨hlast, hd1⟩ := hld
                    split at h
                    · rename_i sh hk
                      split at h
                      · rename_i body r hbody hr
                        cases h
                        obtain ⟨M0, nl, cnt, es, hM0, hcc, hmv⟩ := hG m _ (look_mem hlm)
                        have hjl : j + 1 = lvs.length := by rw [hE.len]; simpa [isLast, Nat.beq_eq] using hlast
                        obtain rfl : M0 = L := by
                          rw [List.getLast?_eq_getElem?, ← hjl, Nat.add_sub_cancel, hM0] at hL
                          exact Option.some.inj hL
                        obtain ⟨L', v, c0, hL', hvv, hcc', hrep, hconf, hcell, hlt⟩ := hE.at hk
                        rw [hM0] at hL'; cases hL'
                        rw [hcc] at hcc'; cases hcc'
                        have hcnt := hconf.arr_lt
                        have hiv : a.eval (.tmp i) = .int .i64 0 := hG i _ (look_mem hli)
                        have hmb : m ∉ wrC b := by
                          rw [hwrb]
                          simp only [List.flatMap_cons, List.flatMap_nil, wrC, wrO, List.append_nil, List.filterMap_cons, List.filterMap_nil, List.mem_append, List.mem_cons, List.not_mem_nil, or_false, not_or, List.nil_append]
                          exact ⟨Ne.symm ncm, nmb, Ne.symm nsm, Ne.symm nim⟩
                        let f : Nat → List UInt8 := fun q => runW body (elem es sh.length q)
                        have hrun : runW (.loop o sh.length body r) M0.cs = (List.range cnt).flatMap f ++ runW r M0.cs := by simp only [runW, hcc]; rfl
                        rw [hrun] at hsz hQ
                        rw [List.length_append] at hsz
                        have hσ0 : ∀ {a1 : Act} {d1 : Value}, (∀ z, z ∉ wrC b → a1.eval (.tmp z) = a.eval (.tmp z)) → Gam lvs d1 ((noDst σ).filter fun p => !has (wrC b) p.1) a1 := by
                          intro a1 d1 hs z x hx
                          rw [List.mem_filter] at hx
                          have hz : z ∉ wrC b := by
                            intro hm
                            have := has_iff.2 hm
                            simp [this] at hx
                          rw [hs z hz]
                          exact hG.noDst z x hx.1
                        refine wp_block (wp_loop
                          (fun a1 w1 => ∃ (q : Nat) (d1 : Value), q ≤ cnt ∧ a1.tmps.size = nT ∧ a1.defers = a.defers ∧ a1.eval (.tmp i) = .int .i64 q ∧ (∀ z, z ∉ wrC b → a1.eval (.tmp z) = a.eval (.tmp z)) ∧
                            a1.eval (.tmp 1) = d1 ∧ Own w1 base T.tB d1 (bs ++ (List.range q).flatMap f) ∧ Below base w w1)
                          (fun a1 _ => cnt - (intOf (a1.eval (.tmp i))).toNat) ?_ ?_)
                        · exact ⟨0, d, Nat.zero_le _, hn, rfl, hiv, fun _ _ => rfl, isDst_eq hd1, by simpa using hown, Below.refl _ _⟩
                        · rintro a1 w1 ⟨q, d1, hq, hn1, hdf1, hi1, hs1, hd11, hown1, hbel1⟩
                          refine wpT_one (wpT_flat b ?_)
                          rw [hflat]
                          refine wpT_region ?_
                          have hm1 : a1.eval (.tmp m) = .int .i64 cnt := (hs1 m hmb).trans hmv
                          refine wpT_value rfl (run_cmp (b := decide ((q : Int) < (cnt : Int))) rfl hi1 hm1 rfl) (wpT_ops_nil ?_)
                          have hcv := eval_put_same a1 c (.bool (decide ((q : Int) < (cnt : Int)))) (by rw [hn1]; exact hc)
                          refine wpT_cond hcv ?_
                          have hs2 : ∀ z, z ∉ wrC b → (a1.put (some c) (.bool (decide ((q : Int) < (cnt : Int))))).eval (.tmp z) = a.eval (.tmp z) := fun z hz =>
                            (eval_put_other _ _ _ _ (by intro e; subst e; exact hz wci)).trans (hs1 z hz)
                          have hbase1 : base ≤ w1.heap.size := Nat.le_trans hbase hbel1.size
                          by_cases hqc : q < cnt
                          · rw [if_pos (by simpa using hqc)]
                            refine wpT_skip (loop_eq ?_)
                            obtain ⟨M, hMok, hMcs, hMi, hMo, cap, hslice⟩ := lv_elem (hrep.keep (Keeps.of_below hbel1)) hconf hqc
                            have hlen1 : ((List.range (q + 1)).flatMap f).length ≤ ((List.range cnt).flatMap f).length := flatMap_length_mono f hqc
                            rw [flatMap_range_succ, List.length_append] at hlen1
                            refine ih none (shs ++ [sh]) _ [.code bd] body hbody _ base (lvs ++ [M]) w1 _ d1 (bs ++ (List.range q).flatMap f) M ((hE.below hbel1).snoc hMok hL) ?_ (by rw [put_size]; exact hn1)
                              (by simp) hown1 hbase1 (by rw [hMcs, List.length_append]; have : (f q).length = (runW body (elem es sh.length q)).length := rfl; omega) ?_
                            · intro z x hx
                              simp only [List.mem_cons, Prod.mk.injEq] at hx
                              rcases hx with ⟨rfl, rfl⟩ | ⟨rfl, rfl⟩ | hx
                              · rw [eval_put_other _ _ _ _ (Ne.symm nc1)]; exact hd11
                              · rw [eval_put_other _ _ _ _ (Ne.symm nci), hi1]
                                exact ⟨M0, M, cnt, cap, getElem_snoc hM0, by rw [hjl]; simp, by rw [hvv, hslice], by rw [hMi]; exact hqc, by rw [hMi]; exact hMo, by rw [hMi]⟩
                              · exact (hσ0 hs2 z x hx).snoc
                            · intro a3 w3 d3 hA hd3
                              have hnb : ∀ z, z ∉ wrC bd → z ∉ wrT [.code bd] := fun z hz => by simpa [wrT] using hz
                              have hi3 : a3.eval (.tmp i) = .int .i64 q := by
                                rw [hA.same i (hnb i nib), eval_put_other _ _ _ _ (Ne.symm nci)]; exact hi1
                              show wpT P _ [.code _] a3 w3
                              refine wpT_region ?_
                              refine wpT_value rfl (run_add1 rfl rfl hi3 (by omega)) ?_
                              refine wpT_value rfl (run_move _ _ rfl) (wpT_ops_nil ?_)
                              have e5 : (a3.put (some s) (.int .i64 ((q + 1 : Nat) : Int))).eval (.tmp s) = .int .i64 ((q + 1 : Nat) : Int) := eval_put_same _ _ _ (by rw [hA.size]; exact hs)
                              rw [e5]
                              have ei : ((a3.put (some s) (.int .i64 ((q + 1 : Nat) : Int))).put (some i) (.int .i64 ((q + 1 : Nat) : Int))).eval (.tmp i) = .int .i64 ((q + 1 : Nat) : Int) :=
                                eval_put_same _ _ _ (by rw [put_size, hA.size]; exact hi)
                              refine ⟨⟨q + 1, d3, hqc, by rw [put_size, put_size]; exact hA.size, ?_, ei, ?_, ?_, ?_, hbel1.trans hA.below⟩, ?_⟩
                              · rw [put_defers, put_defers, hA.defers, put_defers]; exact hdf1
                              · intro z hz
                                rw [eval_put_other _ _ _ _ (by intro e; subst e; exact hz wii), eval_put_other _ _ _ _ (by intro e; subst e; exact hz wsi), hA.same z (hnb z (fun hm => hz (wbd z hm)))]
                                exact hs2 z hz
                              · rw [eval_put_other _ _ _ _ (Ne.symm ni1), eval_put_other _ _ _ _ (Ne.symm ns1)]
                                simpa using hd3
                              · have := hA.own
                                rw [hMcs] at this
                                rw [flatMap_range_succ, ← List.append_assoc]
                                exact this
                              · show cnt - (intOf (Act.eval _ (.tmp i))).toNat < cnt - (intOf (Act.eval _ (.tmp i))).toNat
                                rw [ei, hi1]
                                simp only [intOf]
                                omega
                          · rw [if_neg (by simpa using hqc)]
                            have hqe : q = cnt := by omega
                            subst hqe
                            refine wp_exit ?_
                            simp only [Exit.then, Exit.inBlock, if_true]
                            refine ih res shs _ k r hr Q base lvs w1 _ d1 (bs ++ (List.range q).flatMap f) M0 (hE.below hbel1) ?_ (by rw [put_size]; exact hn1) hL hown1 hbase1 (by rw [List.length_append]; omega) ?_
                            · intro z x hx
                              simp only [List.mem_cons, Prod.mk.injEq] at hx
                              rcases hx with ⟨rfl, rfl⟩ | hx
                              · rw [eval_put_other _ _ _ _ (Ne.symm nc1)]; exact hd11
                              · exact hσ0 hs2 z x hx
                            · intro a' w' d' hA hd'
                              refine hQ a' w' d' ⟨hA.size, ?_, ?_, ?_, hbel1.trans hA.below⟩ hd'
                              · rw [hA.defers, put_defers]; exact hdf1
                              · intro z hz
                                simp only [wrT, wrC, List.mem_append, not_or] at hz
                                rw [hA.same z hz.2]
                                exact hs2 z hz.1
                              · have := hA.own
                                rwa [List.append_assoc] at this
                      · cases h
                    · cases h
                  · cases h
                · cases h
              · cases h
          | _ => simp [execW] at h
        | _ => simp [execW] at h
end Go.Proofs.Eng
