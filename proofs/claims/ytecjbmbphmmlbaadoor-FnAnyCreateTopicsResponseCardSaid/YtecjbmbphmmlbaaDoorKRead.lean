/-
  Tags of a struct, one of them known (a number of 16 bits): read by the code that stands in the struct's loop.
-/
import Derived.Test.YtecjbmbphmmlbaaDoorKTags
import Derived.Test.YtecjbmbphmmlbaaDoorKHook
import Derived.Test.YtecjbmbphmmlbaaDoorRAgain
set_option linter.unusedVariables false
set_option linter.unusedSimpArgs false
namespace Go.Proofs.YtecjbmbphmmlbaaDoor
open Go Go.RowKit Go.Proofs.Eng
set_option maxRecDepth 20000
set_option maxHeartbeats 8000000
theorem spl_mid {A C vals : List Value} {o : Nat} {v : Value} (h : o < vals.length) : ((A ++ (vals ++ C)).toArray.setIfInBounds (A.length + o) v) = (A ++ (vals.set o v ++ C)).toArray := by
  apply Array.toList_inj.1
  rw [Array.toList_setIfInBounds]
  show (A ++ (vals ++ C)).set (A.length + o) v = _
  rw [List.set_append_right _ _ (by omega), Nat.add_sub_cancel_left, List.set_append_left _ _ h]
theorem get_mid {A C vals : List Value} {o : Nat} {v : Value} (h : vals[o]? = some v) : ((A ++ (vals ++ C)).toArray)[A.length + o]? = some v := by
  have hl := (List.getElem?_eq_some_iff.1 h).1
  rw [List.getElem?_toArray, List.getElem?_append_right (by omega), Nat.add_sub_cancel_left, List.getElem?_append_left hl]
  exact h
theorem beq_ne {x y : Nat} (h : x ≠ y) : Nat.beq x y = false := by
  cases hb : Nat.beq x y with
  | false => rfl
  | true => exact absurd (Nat.eq_of_beq_eq_true hb) h
theorem rBuildK (A : Option Addr) (n c : Nat) : Tryd.prog.built 68 [(0, .slice A n c)] = some #[.slice A n c, .bool false] := by kernel_rfl
theorem rInfoK : Tryd.prog.info? 68 = some Tryd.t68 := by kernel_rfl
abbrev fTag : List CV → RS → Option (List CV × RS) := fun c t => runR (.prim .i16 0 .nil) c t
abbrev IxR := Nat × (Value × CV × Value × List (Nat × List UInt8)) × RS
def iRd (w : World) (X : Nat → Prop) (rb bl : Nat) (A C vals : List Value) (bt : TypeId) (out : Option (List CV × List (Nat × List UInt8) × RS)) (i : IxR) (w' : World) : Prop :=
  i.1 < 4294967296 ∧ Turn w w' rb bl ∧ RdOK w' (fun b => w.heap.size ≤ b ∨ X b) 68 rb i.2.2 ∧ w'.heap[bl]? = some (.cells (A ++ (((vals.set 19 i.2.1.1).set 23 i.2.1.2.2.1) ++ C)).toArray bt (0, 0)) ∧
  MapAt w' w.heap.size (fun b => w.heap.size ≤ b ∨ X b) i.2.1.2.2.1 i.2.1.2.2.2 ∧ Rep w X i.2.1.1 i.2.1.2.1 ∧ i.2.1.2.2.2.Pairwise (fun a b => a.1 < b.1) ∧ kloop fTag i.1 [i.2.1.2.1] i.2.1.2.2.2 i.2.2 = out
theorem hr_ok {E : Value} (hE : ∃ u q, E = .iface u q) : HRContract Tryd.prog 68 1 E hookRd := by
  intro X bl A C vals bt cs s rb w a Q k hS hn hd hrd hpv hmap hle q1 q2
  have hn : a.tmps.size = 266 := hn
  have hrd : a.eval (.tmp 7) = .pointer (some ⟨rb, 0, none⟩) := hrd
  have hpv : a.eval (.tmp 17) = .pointer (some ⟨bl, A.length, none⟩) := hpv
  have hmap : vals[23]? = some (.map none) := hmap
  have hcl : cs.length = vals.length := hS.len.symm
  have hot : 23 < vals.length := (List.getElem?_eq_some_iff.1 hmap).1
  obtain ⟨u0, hu0⟩ : ∃ u, vals[19]? = some u := ⟨_, List.getElem?_eq_getElem (by omega)⟩
  obtain ⟨c0, hc0⟩ : ∃ c, cs[19]? = some c := ⟨_, List.getElem?_eq_getElem (by omega)⟩
  have hv0 : (cs.drop hookRd.off).take hookRd.w = [c0] := by
    show (cs.drop 19).take 1 = [c0]
    rw [List.take_one, List.head?_drop, hc0]
    rfl
  rw [hv0] at q1 q2
  have q1 : ∀ a' w' vals' v l s', kloop fTag (rUv s).1 [c0] [] (rUv s).2 = some (v, l, s') → AfterR a a' w w' rb bl 266 (wrC codeRd) →
      StR w' X 68 1 E rb bl A C vals' bt (setAt (setAt cs 19 v) 23 [.tags l]) s' → vals'.length = vals.length → (∀ q, 23 < q → vals'[q]? = vals[q]?) → wpT Tryd.prog Q k a' w' := q1
  have q2 : ∀ a' w', kloop fTag (rUv s).1 [c0] [] (rUv s).2 = none → AfterN a a' w w' rb bl → a'.eval (.tmp 6) = E → Q .ret a' w' := q2
  have hxlt := hS.lt
  have hsame : ∀ (a' : Act) (σ : Sv), Knows 266 σ a' → Eng.look σ 7 = some (.pointer (some ⟨rb, 0, none⟩)) → Eng.look σ 17 = some (.pointer (some ⟨bl, A.length, none⟩)) → Fr (7 :: 17 :: wrR) (tauOf (7 :: 17 :: wrR) 266 a) σ → ∀ t, t ∉ wrC codeRd → a'.eval (.tmp t) = a.eval (.tmp t) := by
    intro a' σ hk h1 h2 hF t ht
    by_cases e1 : t = 7
    · subst e1; rw [hk.2.2 _ _ h1, hrd]
    · by_cases e2 : t = 17
      · subst e2; rw [hk.2.2 _ _ h2, hpv]
      · refine hook_same hk hn hF t ?_
        have h3 : has wrR t = false := by
          cases hh : has wrR t with
          | false => rfl
          | true => exact absurd (has_iff.1 (allB_mem supR t (has_iff.1 hh))) ht
        simp only [has, h3, Bool.or_false, Bool.or_eq_false_iff]
        exact ⟨beq_ne (Ne.symm e1), beq_ne (Ne.symm e2)⟩
  suffices key : wk Tryd.prog (Qh Tryd.prog Q k) 266 ([(7, .pointer (some ⟨rb, 0, none⟩)), (17, .pointer (some ⟨bl, A.length, none⟩))] ++ tauOf (7 :: 17 :: wrR) 266 a) [.code codeRd] w from
    hook_wk key (hook_start hn hd (by
      intro p hp
      simp only [List.mem_cons, List.not_mem_nil, or_false] at hp
      rcases hp with rfl | rfl
      · exact hrd
      · exact hpv))
  have hτ0 : ∀ t v, Eng.look (tauOf (7 :: 17 :: wrR) 266 a) t = some v → has (7 :: 17 :: wrR) t = false := fun t v h => (tau_inv h).1
  generalize tauOf (7 :: 17 :: wrR) 266 a = τ at hsame hτ0 ⊢
  have hXr := hS.xr
  have hXb := hS.xb
  have hrb : rb < w.heap.size := hxlt rb hXr
  have hbl : bl < w.heap.size := hxlt bl hXb
  have hne : bl ≠ rb := hS.ne
  have hgX := hS.xg
  have herr0 := hS.err
  have hrY : RdOK w (fun b => w.heap.size ≤ b ∨ X b) 68 rb s := hS.rd.mono (fun b hb hy => hy.resolve_left (by omega))
  have herr : ∀ w' : World, Turn w w' rb bl → w'.cell? ⟨1, 0, none⟩ = some E := fun w' h => ((h.keeps hXr hXb).cell (a := ⟨1, 0, none⟩) hgX (lt_of_cell herr0)).trans herr0
  show wk Tryd.prog (Qh Tryd.prog Q k) 266 ((7, .pointer (some ⟨rb, 0, none⟩)) :: (17, .pointer (some ⟨bl, A.length, none⟩)) :: τ) [.code codeRd] w
  refine wk_seq ?_
  refine wk_reg (id := 107) ?_
  refine wk_call Tryd.call51 (vs := [.pointer (some ⟨rb, 0, none⟩)]) rfl rfl ((rd_Uvarint w _ rb s hrY (.inr hXr)).mono ?_)
  rintro e w1 ⟨rfl, hr1, hg1⟩
  refine ⟨_, rfl, ?_⟩
  have hub := rUv_bound s
  generalize hp0 : rUv s = p0 at *
  obtain ⟨n, s1⟩ := p0
  simp only at hub hr1 q1 q2
  refine wk_assign rfl rfl ?_
  refine wk_nil ?_
  refine wk_loopW (fun i : IxR => [(7, .pointer (some ⟨rb, 0, none⟩)), (17, .pointer (some ⟨bl, A.length, none⟩)), (35, .int .u32 (i.1 : Int))] ++ τ)
    (iRd w X rb bl A C vals bt (kloop fTag n [c0] [] s1)) (fun i => i.1) (n, (u0, c0, .map none, []), s1) (pre_sub hτ0 rfl (by repeat (first | exact Fr.base | refine Fr.step rfl ?_))) ?_ ?_
  · refine ⟨hub, Turn.of_grown hg1, hr1, ?_, .inl ⟨rfl, rfl⟩, hS.rep 19 u0 c0 hu0 hc0, by simp, rfl⟩
    show w1.heap[bl]? = some (.cells (A ++ (((vals.set 19 u0).set 23 (.map none)) ++ C)).toArray bt (0, 0))
    rw [lset_same hu0, lset_same hmap]
    exact (hg1.block bl hbl (by intro e; cases e; exact hne rfl)).trans hS.row
  · rintro ⟨m, ⟨u, c, mv, acc⟩, s2⟩ w2 ⟨hm, ht2, hr2, hrow2, hmap2, hrep2, hso, hout⟩
    simp only at hm hr2 hrow2 hmap2 hrep2 hso hout
    have hsz2 := ht2.size
    show wk Tryd.prog _ 266 ((7, .pointer (some ⟨rb, 0, none⟩)) :: (17, .pointer (some ⟨bl, A.length, none⟩)) :: (35, .int .u32 (m : Int)) :: τ) _ w2
    by_cases h0 : m = 0
    · subst h0
      have c1 : cmp .gtr ((0 : Nat) : Int) 0 = some false := rfl
      refine wk_seq ?_
      refine wk_seq ?_
      refine wk_reg (id := 108) ?_
      refine wk_move rfl rfl ?_
      refine wk_cmp rfl rfl (by with_reducible assumption) rfl ?_
      refine wk_nil ?_
      refine wk_condF rfl ?_
      refine wk_loopExit ?_
      refine wk_raw (fun a' ha' => ?_)
      show wpT Tryd.prog Q k a' w2
      have hfit1 : 19 + [c].length ≤ cs.length := by simp; omega
      have hfit2 : 23 + [CV.tags acc].length ≤ (setAt cs 19 [c]).length := by rw [setAt_length hfit1]; simp; omega
      refine q1 a' w2 ((vals.set 19 u).set 23 mv) [c] acc s2 (hout.symm.trans rfl) ⟨⟨ha'.2.1.trans hd.symm, ht2⟩, ha'.1, hsame a' _ ha' rfl rfl (by repeat (first | exact Fr.base | refine Fr.step rfl ?_))⟩
        ⟨hXb, hXr, hne, fun b hb => Nat.lt_of_lt_of_le (hxlt b hb) hsz2, hrow2, ?_, ?_, hr2.mono (fun b _ hx => .inr hx), hgX, herr w2 ht2⟩ (by simp) ?_
      · rw [setAt_length hfit2, setAt_length hfit1]; simp [hcl]
      · intro q v c' hv hc
        rw [setAt_get hfit2] at hc
        by_cases e2 : q = 23
        · subst e2
          rw [List.getElem?_set_self (by simp; omega)] at hv
          rw [if_neg (by omega), if_pos (by simp), Nat.sub_self] at hc
          cases hv
          cases hc
          rcases hmap2 with ⟨rfl, rfl⟩ | ⟨r, ents, cl, rfl, hbr, hre, hst, hT⟩
          · exact .tnil
          · exact .tags r ents cl acc (fun hx => by have := hxlt r hx; omega) hre hst (hT.mono (fun b _ h => .inr h))
        · rw [List.getElem?_set_ne (Ne.symm e2)] at hv
          have hc : (setAt cs 19 [c])[q]? = some c' := by
            split at hc
            · exact hc
            · rw [if_neg (by simp; omega)] at hc; exact hc
          rw [setAt_get hfit1] at hc
          by_cases e1 : q = 19
          · subst e1
            rw [List.getElem?_set_self (by omega)] at hv
            rw [if_neg (by omega), if_pos (by simp), Nat.sub_self] at hc
            cases hv
            cases hc
            exact hrep2.keep (ht2.keeps hXr hXb)
          · rw [List.getElem?_set_ne (Ne.symm e1)] at hv
            have hc : cs[q]? = some c' := by
              split at hc
              · exact hc
              · rw [if_neg (by simp; omega)] at hc; exact hc
            exact (hS.rep q v c' hv hc).keep (ht2.keeps hXr hXb)
      · intro q hq
        rw [List.getElem?_set_ne (by omega), List.getElem?_set_ne (by omega)]
    · have c1 : cmp .gtr (m : Int) 0 = some true := by simp only [cmp, Option.some.injEq, decide_eq_true_eq]; omega
      refine wk_seq ?_
      refine wk_seq ?_
      refine wk_reg (id := 108) ?_
      refine wk_move rfl rfl ?_
      refine wk_cmp rfl rfl (by with_reducible assumption) rfl ?_
      refine wk_nil ?_
      refine wk_condT rfl ?_
      refine wk_skip ?_
      refine wk_seq ?_
      refine wk_block ?_
      refine wk_seq ?_
      refine wk_reg (id := 110) ?_
      refine wk_call Tryd.call51 (vs := [.pointer (some ⟨rb, 0, none⟩)]) rfl rfl ((rd_Uvarint w2 _ rb s2 hr2 (.inr hXr)).mono ?_)
      rintro e w3 ⟨rfl, hr3, hg3⟩
      refine ⟨_, rfl, ?_⟩
      obtain ⟨q, hq⟩ : ∃ q, m = q + 1 := ⟨m - 1, by omega⟩
      subst hq
      have hsub : IntKind.u32.wrap (((q + 1 : Nat) : Int) - 1) = (q : Int) := by rw [show ((q + 1 : Nat) : Int) - 1 = (q : Int) by omega]; exact u32n q (by omega)
      have hb1 := rUv_bound s2
      have hb2 := rUv_bound (rUv s2).2
      have hwz := i64wr ((rUv (rUv s2).2).1 : Int) (by omega) (by omega)
      have ht3 : Turn w w3 rb bl := ht2.trans (Turn.of_grown hg3)
      have hrow3 := (hg3.block bl (lt_of_some hrow2) (by intro e; cases e; exact hne rfl)).trans hrow2
      refine wk_assign rfl rfl ?_
      refine wk_nil ?_
      refine wk_seq ?_
      refine wk_reg (id := 111) ?_
      refine wk_move rfl rfl ?_
      refine wk_nil ?_
      refine wk_block ?_
      by_cases hk0 : (rUv s2).1 = 0
      · have c2 : cmp .eql ((rUv s2).1 : Int) 0 = some true := by simp [cmp, hk0]
        refine wk_seq ?_
        refine wk_reg (id := 113) ?_
        refine wk_cmp rfl rfl (by with_reducible assumption) rfl ?_
        refine wk_assign rfl rfl ?_
        refine wk_nil ?_
        refine wk_condT rfl ?_
        refine wk_seq ?_
        refine wk_reg (id := 114) ?_
        refine wk_call Tryd.call51 (vs := [.pointer (some ⟨rb, 0, none⟩)]) rfl rfl ((rd_Uvarint w3 _ rb _ hr3 (.inr hXr)).mono ?_)
        rintro e w4 ⟨rfl, hr4, hg4⟩
        refine ⟨_, rfl, ?_⟩
        refine wk_convV rfl Tryd.underlying65 Tryd.underlying3 (by with_reducible assumption) rfl ?_
        refine wk_call Tryd.call53 (vs := [.pointer (some ⟨rb, 0, none⟩), .int .i64 ((rUv (rUv s2).2).1 : Int)]) rfl rfl ((rd_Span w4 _ rb _ ((rUv (rUv s2).2).1 : Int) hr4 (.inr hXr)).mono ?_)
        rintro e w5 ⟨v5, rfl, hs5, hr5, hg5⟩
        refine ⟨_, rfl, ?_⟩
        have hstep : kloop fTag (q + 1) [c] acc s2 = (match fTag [c] ⟨(rSpan ((rUv (rUv s2).2).1 : Int) (rUv (rUv s2).2).2).1, false⟩ with
          | none => none
          | some (v', t) => if t.bad then none else kloop fTag q v' acc (rSpan ((rUv (rUv s2).2).1 : Int) (rUv (rUv s2).2).2).2) := by
          simp only [kloop]
          rw [if_pos hk0]
          rfl
        rw [hstep] at hout
        clear hstep
        generalize rSpan ((rUv (rUv s2).2).1 : Int) (rUv (rUv s2).2).2 = p5 at *
        obtain ⟨sp, s5⟩ := p5
        simp only at hs5 hr5 hout
        have hg35 := grown_trans1 hg4 hg5
        have ht5 : Turn w w5 rb bl := ht3.trans (Turn.of_grown hg35)
        have hrow5 := (hg35.block bl (lt_of_some hrow3) (by intro e; cases e; exact hne rfl)).trans hrow3
        obtain ⟨A5, n5, c5, rfl⟩ : ∃ A n c, v5 = .slice A n c := by
          cases sp with
          | none => exact ⟨_, _, _, hs5⟩
          | some l => obtain ⟨b, o, n, c, e, _⟩ := hs5; exact ⟨_, _, _, e⟩
        have hone5 : (Value.slice A5 n5 c5).oneCell' = true := rfl
        refine wk_val (w' := w5) (v := .agg #[.slice A5 n5 c5, .bool false]) (fun a ha => by
          have hv := ha.ev (x := .tmp 244) (v := .slice A5 n5 c5) rfl
          have := run_build (P := Tryd.prog) w5 68 #[(0, .slice A5 n5 c5)] _ (by simpa using rBuildK A5 n5 c5)
          simp [execOp, hv, this]) rfl ?_
        refine wk_alloc (t := 68) (i := Tryd.t68) (by kernel_rfl) rfl rfl ?_
        refine wk_storeNew (w0 := w5) (c' := #[.slice A5 n5 c5, .bool false]) rfl rfl rInfoK rfl rfl (one2 hone5 rfl) ?_
        have hb6 : Below w5.heap.size w5 (w5.alloc (.cells #[.slice A5 n5 c5, .bool false] 68)) := below1 _ _
        have hsz5 := ht5.size
        generalize hw6 : w5.alloc (.cells #[.slice A5 n5 c5, .bool false] 68) = w6 at hb6 ⊢
        have hrd6r : w6.heap[w5.heap.size]? = some (.cells #[.slice A5 n5 c5, .bool false] 68 (0, 0)) := by rw [← hw6]; exact heap_alloc_last _ _
        have hsz6 : w5.heap.size < w6.heap.size := lt_of_some hrd6r
        clear hw6
        have ht6 : Turn w w6 rb bl := ht5.trans (Turn.of_below hb6)
        have hrow6 := (hb6.block bl (lt_of_some hrow5)).trans hrow5
        have hr6 : RdOK w6 (fun b => w.heap.size ≤ b ∨ X b) 68 rb s5 := hr5.fresh hb6
        have hk56 : Keeps (fun b => w.heap.size ≤ b ∨ X b) w5 w6 := ⟨hb6.size, fun b hb _ => hb6.block b hb⟩
        have hq6 : RdOK w6 (fun b => (w.heap.size ≤ b ∧ b < w6.heap.size) ∨ X b) 68 w5.heap.size ⟨sp, false⟩ :=
          ⟨_, hrd6r, (hs5.keep hk56).mono (fun b _ h => h.elim (fun h => .inl h.1) .inr)⟩
        refine wk_nil ?_
        refine wk_seq ?_
        refine wk_reg (id := 115) ?_
        refine wk_call Tryd.call42 (vs := [.pointer (some ⟨w5.heap.size, 0, none⟩)]) rfl rfl ((rd_Int16 w6 _ w5.heap.size ⟨sp, false⟩ hq6 (.inl ⟨by omega, hsz6⟩) (fun b h => h.elim (fun h => h.2) (fun h => by have := hxlt b h; omega))).mono ?_)
        rintro e w7 ⟨v7, rfl, hrep7, hq7, hg7⟩
        refine ⟨_, rfl, ?_⟩
        have hf : fTag [c] ⟨sp, false⟩ = some ([.int .i16 (rI .i16 2 ⟨sp, false⟩).1], (rI .i16 2 ⟨sp, false⟩).2) := rfl
        have hp7 : rprim .i16 ⟨sp, false⟩ = ([.int .i16 (rI .i16 2 ⟨sp, false⟩).1], (rI .i16 2 ⟨sp, false⟩).2) := rfl
        rw [hp7] at hrep7 hq7
        rw [hf] at hout
        simp only at hout hq7
        generalize rI .i16 2 ⟨sp, false⟩ = p7 at *
        obtain ⟨x7, t7⟩ := p7
        simp only at hout hq7 hrep7
        obtain ⟨c7, hc7, hrep7⟩ := hrep7
        cases hc7
        obtain rfl := hrep7.int_inv
        have ht7 : Turn w w7 rb bl := ht6.fresh (Turn.of_grownL hg7) (by omega)
        have ht27 : Turn w2 w7 rb bl := (((Turn.of_grown hg3).trans (Turn.of_grown hg35)).trans (Turn.of_below hb6)).fresh (Turn.of_grownL hg7) (by have := hg3.size; have := hg35.size; omega)
        have hrow7 := (hg7.block bl (lt_of_some hrow6) (by intro e; cases e; omega)).trans hrow6
        refine wk_assign rfl rfl ?_
        refine wk_nil ?_
        refine wk_seq ?_
        refine wk_reg (id := 116) ?_
        refine wk_move rfl rfl ?_
        refine wk_move rfl rfl ?_
        refine wk_nilCheck rfl rfl ?_
        refine wk_field (f := 4) (i := Tryd.t29) rfl Tryd.underlying52 rfl (by kernel_rfl) (by decide) rfl ?_
        refine wk_store1 (o := A.length + 19) (i := Tryd.t29) rfl rfl hrow7 (by kernel_rfl) rfl rfl rfl (by simp; omega) ?_
        rw [spl_mid (by simp; omega)]
        have hset : ((vals.set 19 u).set 23 mv).set 19 (.int .i16 x7) = (vals.set 19 (.int .i16 x7)).set 23 mv := by
          rw [List.set_comm _ _ (show 23 ≠ 19 by omega), List.set_set]
        rw [hset]
        have hrow8 := setRow_heap _ _ _ (A ++ ((vals.set 19 (.int .i16 x7)).set 23 mv ++ C)).toArray _ _ hrow7
        have ht8 : Turn w (w7.setRow bl (A ++ ((vals.set 19 (.int .i16 x7)).set 23 mv ++ C)).toArray) rb bl := ht7.trans (Turn.setRow w7 rb bl _)
        have ht79 : Turn w7 (w7.setRow bl (A ++ ((vals.set 19 (.int .i16 x7)).set 23 mv ++ C)).toArray) rb bl := Turn.setRow w7 rb bl _
        have hsz8 : w7.heap.size ≤ (w7.setRow bl (A ++ ((vals.set 19 (.int .i16 x7)).set 23 mv ++ C)).toArray).heap.size := by simp [World.setRow]
        have ho8 : ∀ b, b ≠ bl → (w7.setRow bl (A ++ ((vals.set 19 (.int .i16 x7)).set 23 mv ++ C)).toArray).heap[b]? = w7.heap[b]? := fun b hb => setRow_other _ _ _ _ hb
        generalize w7.setRow bl (A ++ ((vals.set 19 (.int .i16 x7)).set 23 mv ++ C)).toArray = w8 at *
        have hk8 : Keeps (fun b => (w.heap.size ≤ b ∧ b < w6.heap.size) ∨ X b) w7 w8 := ⟨hsz8, fun b hb hnx => ho8 b (fun e => hnx (.inr (e ▸ hXb)))⟩
        have hq8 : RdOK w8 (fun b => (w.heap.size ≤ b ∧ b < w6.heap.size) ∨ X b) 68 w5.heap.size t7 := by
          obtain ⟨v, h1, h2⟩ := hq7
          exact ⟨v, (ho8 _ (by omega)).trans h1, h2.keep hk8⟩
        refine wk_nil ?_
        refine wk_seq ?_
        refine wk_reg (id := 117) ?_
        refine wk_call Tryd.call35 (vs := [.pointer (some ⟨w5.heap.size, 0, none⟩)]) rfl rfl ((rd_Complete 1 E rfl w8 _ w5.heap.size t7 hq8 (herr w8 ht8)).mono ?_)
        rintro e w9 ⟨rfl, rfl⟩
        refine ⟨_, rfl, ?_⟩
        refine wk_assign rfl rfl ?_
        refine wk_nil ?_
        refine wk_seq ?_
        refine wk_reg (id := 118) ?_
        refine wk_move rfl rfl ?_
        refine wk_neqnil (E := E) (bad := t7.bad) rfl Tryd.underlying35 hE rfl ?_
        cases hbad : t7.bad with
        | true =>
          refine wk_nil ?_
          refine wk_condT rfl ?_
          refine wk_seq ?_
          refine wk_reg (id := 119) ?_
          refine wk_move rfl rfl ?_
          refine wk_assign rfl rfl ?_
          refine wk_nil ?_
          refine wk_raw (fun a' ha' => ?_)
          refine wpT_ret ?_
          rw [if_pos hbad] at hout
          exact q2 a' w9 hout.symm ⟨ha'.2.1.trans hd.symm, ht8⟩ (ha'.2.2 6 _ rfl)
        | false =>
          rw [if_neg (by rw [hbad]; simp)] at hout
          refine wk_nil ?_
          refine wk_condF rfl ?_
          refine wk_skip ?_
          refine wk_blockEnd ?_
          refine wk_blockEnd ?_
          refine wk_reg (id := 109) ?_
          refine wk_move rfl rfl ?_
          refine wk_subV rfl rfl (by with_reducible assumption) rfl ?_
          refine wk_assign rfl rfl ?_
          refine wk_nil ?_
          have ht29 : Turn w2 w9 rb bl := ht27.trans ht79
          refine wk_loopNextW (q, (.int .i16 x7, .int .i16 x7, mv, acc), s5) (Nat.lt_succ_self q) (pre_sub hτ0 rfl (by repeat (first | exact Fr.base | refine Fr.step rfl ?_))) ⟨by simp only; omega, ht8, ?_, hrow8, ?_, .int _ _, hso, hout⟩
          · show RdOK w9 _ _ rb s5
            obtain ⟨v, h1, h2⟩ := hr6
            have hk69 : Keeps (fun b => w.heap.size ≤ b ∨ X b) w6 w9 := ⟨by have := hg7.size; have := hk8.1; omega, fun b hb hnx => (ho8 b (fun e => hnx (.inr (e ▸ hXb)))).trans (hg7.block b hb (by intro e; cases e; exact hnx (.inl (by omega))))⟩
            exact ⟨v, (ho8 rb (Ne.symm hne)).trans ((hg7.block rb (lt_of_some h1) (by intro e; cases e; omega)).trans h1), h2.keep hk69⟩
          · show MapAt w9 _ _ mv acc
            refine MapAt.keep (w := w2) hmap2 ?_ ?_
            · exact ht29.keeps (.inr hXr) (.inr hXb)
            · intro r es cl h
              refine (ht29.block r (lt_of_some h) ?_ ?_).trans h
              · intro e
                subst e
                obtain ⟨v, h1, _⟩ := hr2
                rw [h] at h1
                cases h1
              · intro e
                subst e
                rw [h] at hrow2
                cases hrow2
      · have c2 : cmp .eql ((rUv s2).1 : Int) 0 = some false := by simp [cmp]; omega
        refine wk_seq ?_
        refine wk_reg (id := 113) ?_
        refine wk_cmp rfl rfl (by with_reducible assumption) rfl ?_
        refine wk_assign rfl rfl ?_
        refine wk_nil ?_
        refine wk_condF rfl ?_
        have hstep : kloop fTag (q + 1) [c] acc s2 = kloop fTag q [c] (tagSet (rUv s2).1 (orNil (rSpan ((rUv (rUv s2).2).1 : Int) (rUv (rUv s2).2).2).1) acc) (rSpan ((rUv (rUv s2).2).1 : Int) (rUv (rUv s2).2).2).2 := by
          simp only [kloop]
          rw [if_neg hk0]
        rw [hstep] at hout
        clear hstep
        refine wk_draw (fun _ => True) [(0, true), (1, true), (2, true), (3, true), (4, false), (5, true), (6, false), (7, false)] mixedR (pqb (pqb (pql pqh))) (by kernel_rfl) (by kernel_rfl) (by kernel_rfl) (fun _ _ _ => trivial) ?_
        intro w3' h3' hb3'
        have hr3' := hr3.fresh hb3'
        have ht3' : Turn w w3' rb bl := ht3.trans (Turn.of_below hb3')
        have hrow3' := (hb3'.block bl (lt_of_some hrow3)).trans hrow3
        refine wd_move rfl rfl rfl ?_
        refine wd_nilCheck rfl rfl rfl ?_
        refine wd_field (f := 8) (ti := Tryd.t41) rfl rfl Tryd.underlying52 rfl (by kernel_rfl) (by decide) rfl ?_
        refine wd_move rfl rfl rfl ?_
        refine wd_call rfl Tryd.call51 (vs := [.pointer (some ⟨rb, 0, none⟩)]) rfl rfl ((rd_Uvarint w3' _ rb _ hr3' (.inr hXr)).mono ?_)
        rintro e w4 ⟨rfl, hr4, hg4⟩
        refine ⟨_, rfl, trivial, ?_⟩
        refine wd_convV rfl rfl Tryd.underlying65 Tryd.underlying3 hwz rfl ?_
        refine wd_call rfl Tryd.call53 (vs := [.pointer (some ⟨rb, 0, none⟩), .int .i64 ((rUv (rUv s2).2).1 : Int)]) rfl rfl ((rd_Span w4 _ rb _ ((rUv (rUv s2).2).1 : Int) hr4 (.inr hXr)).mono ?_)
        rintro e w5 ⟨v5, rfl, hs5, hr5, hg5⟩
        refine ⟨_, rfl, trivial, ?_⟩
        have hg35 := grown_trans1 hg4 hg5
        have ht5 : Turn w w5 rb bl := ht3'.trans (Turn.of_grown hg35)
        have ht25 : Turn w2 w5 rb bl := ((Turn.of_grown hg3).trans (Turn.of_below hb3')).trans (Turn.of_grown hg35)
        have hrow5 := (hg35.block bl (lt_of_some hrow3') (by intro e; cases e; exact hne rfl)).trans hrow3'
        have hsz5 := ht5.size
        have hmap5 : MapAt w5 w.heap.size (fun b => w.heap.size ≤ b ∨ X b) mv acc := MapAt.keep (w := w2) hmap2 (ht25.keeps (.inr hXr) (.inr hXb)) (by
          intro r es cl h
          refine (ht25.block r (lt_of_some h) ?_ ?_).trans h
          · intro e
            subst e
            obtain ⟨v, h1, _⟩ := hr2
            rw [h] at h1
            cases h1
          · intro e
            subst e
            rw [h] at hrow2
            cases hrow2)
        generalize rSpan ((rUv (rUv s2).2).1 : Int) (rUv (rUv s2).2).2 = p5 at *
        obtain ⟨sp, s5⟩ := p5
        simp only at hs5 hr5 hout
        have hvl : 23 < (vals.set 19 u).length := by simp; omega
        refine wd_call rfl Tryd.call52 (vs := [.pointer (some ⟨bl, A.length + 23, none⟩), .int .u32 ((rUv s2).1 : Int), v5]) rfl rfl
          ((c_TagsSetAt w5 w.heap.size bl (A.length + 23) (rUv s2).1 (fun b => w.heap.size ≤ b ∨ X b) (fun b h => .inl h) (.inr hXb) mv v5 acc (orNil sp) _ bt hrow5 (get_mid (List.getElem?_set_self hvl)) hsz5 hmap5 hso (by
            cases sp with
            | none => exact .inl ⟨⟨none, hs5⟩, rfl⟩
            | some b => exact .inr hs5)).mono ?_)
        rintro e w6 ⟨rfl, mv', hrow6, hmap6, hbb6, hc6⟩
        refine ⟨_, rfl, trivial, ?_⟩
        rw [spl_mid (by simp; omega), List.set_set] at hrow6
        have ht6 : Turn w w6 rb bl := ⟨hbb6.1.trans ht5.os, hbb6.2.1.trans ht5.tape, hbb6.2.2.1.trans ht5.output, Nat.le_trans hsz5 hbb6.2.2.2.1, fun b hb h1 h2 => (hbb6.2.2.2.2 b hb h2).trans (ht5.block b hb h1 h2)⟩
        have hk56 : Keeps (fun b => w.heap.size ≤ b ∨ X b) w5 w6 := ⟨hbb6.2.2.2.1, fun b hb hnx => hbb6.2.2.2.2 b (by
          by_cases h : w.heap.size ≤ b
          · exact absurd (.inl h) hnx
          · omega) (fun e => hnx (.inr (e ▸ hXb)))⟩
        have hr6 : RdOK w6 (fun b => w.heap.size ≤ b ∨ X b) 68 rb s5 := by
          obtain ⟨v, h1, h2⟩ := hr5
          exact ⟨v, hc6 rb _ _ (Ne.symm hne) h1, h2.keep hk56⟩
        refine wd_done ?_
        refine wk_blockEnd ?_
        refine wk_blockEnd ?_
        refine wk_reg (id := 109) ?_
        refine wk_move rfl rfl ?_
        refine wk_subV rfl rfl (by with_reducible assumption) rfl ?_
        refine wk_assign rfl rfl ?_
        refine wk_nil ?_
        exact wk_loopNextW (q, (u, c, mv', tagSet (rUv s2).1 (orNil sp) acc), s5) (Nat.lt_succ_self q) (pre_sub hτ0 rfl (by repeat (first | exact Fr.base | refine Fr.step rfl ?_))) ⟨by simp only; omega, ht6, hr6, hrow6, hmap6, hrep2, tagSet_sorted hso, hout⟩
end Go.Proofs.YtecjbmbphmmlbaaDoor
