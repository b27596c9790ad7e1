/-
  Tags of a partition, one of them known (a struct of two numbers and tags): read by the code that stands in the loop.
-/
import Derived.Test.YtbcfmhgcpijfnaaDoorKTags
import Derived.Test.YtbcfmhgcpijfnaaDoorKHook
import Derived.Test.YtbcfmhgcpijfnaaDoorRAgain
set_option linter.unusedVariables false
set_option linter.unusedSimpArgs false
namespace Go.Proofs.Eng
open Go Go.RowKit
section
variable {P : Program} {Q : Exit → Act → World → Prop} {nT : Nat} {σ : Sv} {k : List TD} {w : World} {all : Array Oper} {l : List Oper} {ty : TypeId} {ps : String} {af : Array Edge} {d : Nat} {x y : Operand} {t : TypeId}
theorem wk_storeA1 {b o : Nat} {cur : Array Value} {u : TypeId} {i : TypeInfo} {v : Value} (hx : evs σ x = some (.pointer (some ⟨b, o, none⟩))) (hy : evs σ y = some (.agg #[v])) (hb : w.heap[b]? = some (.cells cur u (0, 0))) (hi : P.info? t = some i) (hn : i.size = 1) (h1 : v.oneCell' = true) (ho : o < cur.size)
    (h : wk P Q nT σ (.ops all l :: k) (w.setRow b (cur.setIfInBounds o v))) : wk P Q nT σ (.ops all (⟨none, .store t x y, ty, ps, af, none⟩ :: l) :: k) w := by
  refine wk_unit (fun a ha => ?_) h
  have hcell : w.cell? ⟨b, o, none⟩ = some cur[o] := by simp [World.cell?, hb, ho]
  have hfro : w.frozen? ⟨b, o, none⟩ = false := by simp [World.frozen?, hb]
  have hst : (store (⟨b, o, none⟩ : Addr) v).run P w = .ok () (w.setRow b (cur.setIfInBounds o v)) := by
    rw [run_store P w _ v _ h1, hcell]
    simp [hfro, setCell_eq_setRow w b o cur u (0, 0) v hb]
  have hc : (Value.agg #[v]).cells = #[v] := rfl
  have hst2 : (storeVar t ⟨b, o, none⟩ (.agg #[v])).run P w = .ok () (w.setRow b (cur.setIfInBounds o v)) := by
    have ha0 : (⟨b, o, none⟩ : Addr).add 0 = ⟨b, o, none⟩ := by rw [add_addr]; rfl
    simp [storeVar, sizeOf, typeInfo, hi, hn, hc, storeCells, ha0, hst]
  simp [execOp, ha.ev hx, ha.ev hy, Instr.storeAt, Instr.sureAddr, hst2]
end
theorem Turn.inner {w w1 w2 : World} {rb bl c : Nat} (h : Turn w w1 rb bl) (h' : Turn w1 w2 c bl) (hc : w.heap.size ≤ c) : Turn w w2 rb bl :=
  ⟨h'.os.trans h.os, h'.tape.trans h.tape, h'.output.trans h.output, Nat.le_trans h.size h'.size, fun k hk h1 h2 => (h'.block k (Nat.lt_of_lt_of_le hk h.size) (by omega) h2).trans (h.block k hk h1 h2)⟩
theorem RdOK.turnI {w w' : World} {Y : Nat → Prop} {tR rb c bl : Nat} {s : RS} (h : RdOK w Y tR rb s) (ht : Turn w w' c bl) (h1 : rb ≠ c) (h2 : rb ≠ bl) (hc : Y c) (hb : Y bl) : RdOK w' Y tR rb s := by
  obtain ⟨v, h3, h4⟩ := h
  exact ⟨v, (ht.block rb (lt_of_some h3) h1 h2).trans h3, h4.keep (ht.keeps hc hb)⟩
theorem beq_ne {x y : Nat} (h : x ≠ y) : Nat.beq x y = false := by
  cases hb : Nat.beq x y with
  | false => rfl
  | true => exact absurd (Nat.eq_of_beq_eq_true hb) h
end Go.Proofs.Eng
namespace Go.Proofs.YtbcfmhgcpijfnaaDoor
open Go Go.RowKit Go.Proofs.Eng
set_option maxRecDepth 20000
set_option maxHeartbeats 8000000
theorem spl_mid {A C vals : List Value} {o : Nat} {v : Value} (h : o < vals.length) : ((A ++ (vals ++ C)).toArray.setIfInBounds (A.length + o) v) = (A ++ (vals.set o v ++ C)).toArray := by
  apply Array.toList_inj.1
  rw [Array.toList_setIfInBounds]
  show (A ++ (vals ++ C)).set (A.length + o) v = _
  rw [List.set_append_right _ _ (by omega), Nat.add_sub_cancel_left, List.set_append_left _ _ h]
theorem get_mid {A C vals : List Value} {o : Nat} {v : Value} (h : vals[o]? = some v) : ((A ++ (vals ++ C)).toArray)[A.length + o]? = some v := by
  have hl := (List.getElem?_eq_some_iff.1 h).1
  rw [List.getElem?_toArray, List.getElem?_append_right (by omega), Nat.add_sub_cancel_left, List.getElem?_append_left hl]
  exact h
theorem rBuildK (A : Option Addr) (n c : Nat) : Tryd.prog.built 75 [(0, .slice A n c)] = some #[.slice A n c, .bool false] := by kernel_rfl
theorem rInfoK : Tryd.prog.info? 75 = some Tryd.t75 := by kernel_rfl
/-- The blocks that what was read must keep off: those that are turned, the map of the tags that aren't known. -/
def XM (X : Nat → Prop) (mv : Value) : Nat → Prop := fun b => X b ∨ mv = .map (some b)
theorem TS.rep {w w' : World} {b0 : Nat} {mv mv' : Value} {X : Nat → Prop} {u : Value} {c : CV} (h : TS w w' b0 mv mv') (hX : X b0) (hr : Rep w (XM X mv) u c) : Rep w' (XM X mv') u c :=
  (hr.mono (Y := XM X mv') (fun b hb hy => hy.elim .inl (fun e => (h.new b e).elim .inr (fun hge => absurd hb (by omega))))).keep ⟨h.size, fun q hq hn => h.block q hq (fun e => hn (.inl (e ▸ hX))) (fun e => hn (.inr (h.same q e)))⟩
theorem mapAt_ge {w : World} {base : Nat} {Y : Nat → Prop} {mv : Value} {l : List (Nat × List UInt8)} (h : MapAt w base Y mv l) : ∀ q, mv = .map (some q) → base ≤ q ∧ q < w.heap.size ∧ ∃ es cl, w.heap[q]? = some (.map es cl) := by
  intro q hq
  rcases h with ⟨rfl, _⟩ | ⟨r, ents, cl, rfl, h1, h2, _⟩
  · simp at hq
  · simp only [Value.map.injEq, Option.some.injEq] at hq
    subst hq
    exact ⟨h1, lt_of_some h2, _, _, h2⟩
abbrev fTagP : List CV → RS → Option (List CV × RS) := fun c t => runR (.prim .i32 0 (.prim .i32 1 (.tags 2 .nil))) c t
abbrev IxP := Nat × (List Value × CV × CV × CV) × (Value × List (Nat × List UInt8)) × RS
structure RowP (vals vr : List Value) (mv : Value) : Prop where
  len : vr.length = vals.length
  out : ∀ q, q ≠ 5 → q ≠ 6 → q ≠ 7 → q ≠ 11 → vr[q]? = vals[q]?
  map : vr[11]? = some mv
structure RepP (w : World) (X : Nat → Prop) (mv : Value) (vr : List Value) (c1 c2 c3 : CV) : Prop where
  r1 : ∀ v, vr[5]? = some v → Rep w (XM X mv) v c1
  r2 : ∀ v, vr[6]? = some v → Rep w (XM X mv) v c2
  r3 : ∀ v, vr[7]? = some v → Rep w (XM X mv) v c3
theorem RepP.keep {w w' : World} {X : Nat → Prop} {mv : Value} {vr : List Value} {c1 c2 c3 : CV} (h : RepP w X mv vr c1 c2 c3) (k : Keeps X w w') : RepP w' X mv vr c1 c2 c3 :=
  have k' : Keeps (XM X mv) w w' := k.mono (fun _ h => .inl h)
  ⟨fun v hv => (h.r1 v hv).keep k', fun v hv => (h.r2 v hv).keep k', fun v hv => (h.r3 v hv).keep k'⟩
def iRdP (w : World) (X : Nat → Prop) (rb bl : Nat) (A C vals : List Value) (bt : TypeId) (out : Option (List CV × List (Nat × List UInt8) × RS)) (i : IxP) (w' : World) : Prop :=
  i.1 < 4294967296 ∧ Turn w w' rb bl ∧ RdOK w' (fun b => w.heap.size ≤ b ∨ X b) 75 rb i.2.2.2 ∧ w'.heap[bl]? = some (.cells (A ++ (i.2.1.1 ++ C)).toArray bt (0, 0)) ∧ RowP vals i.2.1.1 i.2.2.1.1 ∧
  MapAt w' w.heap.size (fun b => w.heap.size ≤ b ∨ X b) i.2.2.1.1 i.2.2.1.2 ∧ RepP w' X i.2.2.1.1 i.2.1.1 i.2.1.2.1 i.2.1.2.2.1 i.2.1.2.2.2 ∧ i.2.2.1.2.Pairwise (fun a b => a.1 < b.1) ∧ kloop fTagP i.1 [i.2.1.2.1, i.2.1.2.2.1, i.2.1.2.2.2] i.2.2.1.2 i.2.2.2 = out
theorem hrP_ok {E : Value} (hE : ∃ u q, E = .iface u q) : HRContract Tryd.prog 75 1 E hookRdP := by
  intro X bl A C vals bt cs s rb w a Q k hS hn hd hrd hpv hmap hle hkn hkv q1 q2
  have hn : a.tmps.size = 351 := hn
  have hrd : a.eval (.tmp 7) = .pointer (some ⟨rb, 0, none⟩) := hrd
  have hpv : a.eval (.tmp 25) = .pointer (some ⟨bl, A.length, none⟩) := hpv
  have hmap : vals[11]? = some (.map none) := hmap
  have hfx : a.eval (.tmp 9) = .bool true := hkn (9, .bool true) (by simp [hookRdP])
  have hcl : cs.length = vals.length := hS.len.symm
  have hot : 11 < vals.length := (List.getElem?_eq_some_iff.1 hmap).1
  obtain ⟨c01, hc01⟩ : ∃ c, cs[5]? = some c := ⟨_, List.getElem?_eq_getElem (by omega)⟩
  obtain ⟨c02, hc02⟩ : ∃ c, cs[6]? = some c := ⟨_, List.getElem?_eq_getElem (by omega)⟩
  obtain ⟨c03, hc03⟩ : ∃ c, cs[7]? = some c := ⟨_, List.getElem?_eq_getElem (by omega)⟩
  have hv0 : (cs.drop hookRdP.off).take hookRdP.w = [c01, c02, c03] := by
    show (cs.drop 5).take 3 = [c01, c02, c03]
    apply List.ext_getElem?
    intro i
    rw [List.getElem?_take]
    split
    · rename_i hi
      rw [List.getElem?_drop]
      match i, hi with
      | 0, _ => exact hc01
      | 1, _ => exact hc02
      | 2, _ => exact hc03
    · rename_i hi
      rw [List.getElem?_eq_none (by simp; omega)]
  rw [hv0] at q1 q2
  have q1 : ∀ a' w' vals' v l s', kloop fTagP (rUv s).1 [c01, c02, c03] [] (rUv s).2 = some (v, l, s') → AfterR a a' w w' rb bl 351 (wrC codeRdP) →
      StR w' X 75 1 E rb bl A C vals' bt (setAt (setAt cs 5 v) 11 [.tags l]) s' → vals'.length = vals.length → (∀ q, 11 < q → vals'[q]? = vals[q]?) → wpT Tryd.prog Q k a' w' := q1
  have q2 : ∀ a' w', kloop fTagP (rUv s).1 [c01, c02, c03] [] (rUv s).2 = none → AfterN a a' w w' rb bl → a'.eval (.tmp 6) = E → Q .ret a' w' := q2
  have hxlt := hS.lt
  have hsame : ∀ (a' : Act) (σ : Sv), Knows 351 σ a' → Eng.look σ 7 = some (.pointer (some ⟨rb, 0, none⟩)) → Eng.look σ 25 = some (.pointer (some ⟨bl, A.length, none⟩)) → Eng.look σ 9 = some (.bool true) → Fr (7 :: 25 :: 9 :: wrRP) (tauOf (7 :: 25 :: 9 :: wrRP) 351 a) σ → ∀ t, t ∉ wrC codeRdP → a'.eval (.tmp t) = a.eval (.tmp t) := by
    intro a' σ hk h1 h2 h9 hF t ht
    by_cases e1 : t = 7
    · subst e1; rw [hk.2.2 _ _ h1, hrd]
    · by_cases e2 : t = 25
      · subst e2; rw [hk.2.2 _ _ h2, hpv]
      · by_cases e3 : t = 9
        · subst e3; rw [hk.2.2 _ _ h9, hfx]
        · refine hook_same hk hn hF t ?_
          have h3 : has wrRP t = false := by
            cases hh : has wrRP t with
            | false => rfl
            | true => exact absurd (has_iff.1 (allB_mem supRP t (has_iff.1 hh))) ht
          simp only [has, h3, Bool.or_false, Bool.or_eq_false_iff]
          exact ⟨beq_ne (Ne.symm e1), beq_ne (Ne.symm e2), beq_ne (Ne.symm e3)⟩
  suffices key : wk Tryd.prog (Qh Tryd.prog Q k) 351 ([(7, .pointer (some ⟨rb, 0, none⟩)), (25, .pointer (some ⟨bl, A.length, none⟩)), (9, .bool true)] ++ tauOf (7 :: 25 :: 9 :: wrRP) 351 a) [.code codeRdP] w from
    hook_wk key (hook_start hn hd (by
      intro p hp
      simp only [List.mem_cons, List.not_mem_nil, or_false] at hp
      rcases hp with rfl | rfl | rfl
      · exact hrd
      · exact hpv
      · exact hfx))
  have hτ0 : ∀ t v, Eng.look (tauOf (7 :: 25 :: 9 :: wrRP) 351 a) t = some v → has (7 :: 25 :: 9 :: wrRP) t = false := fun t v h => (tau_inv h).1
  generalize tauOf (7 :: 25 :: 9 :: wrRP) 351 a = τ at hsame hτ0 ⊢
  have hXr := hS.xr
  have hXb := hS.xb
  have hrb : rb < w.heap.size := hxlt rb hXr
  have hbl : bl < w.heap.size := hxlt bl hXb
  have hne : bl ≠ rb := hS.ne
  have hgX := hS.xg
  have herr0 := hS.err
  have hrY : RdOK w (fun b => w.heap.size ≤ b ∨ X b) 75 rb s := hS.rd.mono (fun b hb hy => hy.resolve_left (by omega))
  have herr : ∀ w' : World, Turn w w' rb bl → w'.cell? ⟨1, 0, none⟩ = some E := fun w' h => ((h.keeps hXr hXb).cell (a := ⟨1, 0, none⟩) hgX (lt_of_cell herr0)).trans herr0
  show wk Tryd.prog (Qh Tryd.prog Q k) 351 ((7, .pointer (some ⟨rb, 0, none⟩)) :: (25, .pointer (some ⟨bl, A.length, none⟩)) :: (9, .bool true) :: τ) [.code codeRdP] w
  refine wk_seq ?_
  refine wk_reg (id := 78) ?_
  refine wk_call Tryd.call48 (vs := [.pointer (some ⟨rb, 0, none⟩)]) rfl rfl ((rd_Uvarint w _ rb s hrY (.inr hXr)).mono ?_)
  rintro e w1 ⟨rfl, hr1, hg1⟩
  refine ⟨_, rfl, ?_⟩
  have hub := rUv_bound s
  generalize hp0 : rUv s = p0 at *
  obtain ⟨n, s1⟩ := p0
  simp only at hub hr1 q1 q2
  refine wk_assign rfl rfl ?_
  refine wk_nil ?_
  refine wk_loopW (fun i : IxP => [(7, .pointer (some ⟨rb, 0, none⟩)), (25, .pointer (some ⟨bl, A.length, none⟩)), (9, .bool true), (35, .int .u32 (i.1 : Int))] ++ τ)
    (iRdP w X rb bl A C vals bt (kloop fTagP n [c01, c02, c03] [] s1)) (fun i => i.1) (n, (vals, c01, c02, c03), (.map none, []), s1) (pre_sub hτ0 rfl (by repeat (first | exact Fr.base | refine Fr.step rfl ?_))) ?_ ?_
  · have hk1 : Keeps X w w1 := (Turn.of_grown (bl := bl) hg1).keeps hXr hXb
    have h0 : ∀ (q : Nat) (v : Value) (c : CV), vals[q]? = some v → cs[q]? = some c → Rep w1 (XM X (.map none)) v c := fun q v c hv hc =>
      ((hS.rep q v c hv hc).mono (Y := XM X (.map none)) (fun b _ h => h.elim id (fun h => by simp at h))).keep (hk1.mono (fun _ h => .inl h))
    refine ⟨hub, Turn.of_grown hg1, hr1, ?_, ⟨rfl, fun _ _ _ _ _ => rfl, hmap⟩, .inl ⟨rfl, rfl⟩, ⟨fun v hv => h0 5 v _ hv hc01, fun v hv => h0 6 v _ hv hc02, fun v hv => h0 7 v _ hv hc03⟩, by simp, rfl⟩
    exact (hg1.block bl hbl (by intro e; cases e; exact hne rfl)).trans hS.row
  · rintro ⟨m, ⟨vr, c1, c2, c3⟩, ⟨mv, acc⟩, s2⟩ w2 ⟨hm, ht2, hr2, hrow2, hR2, hmap2, hrep2, hso, hout⟩
    simp only at hm hr2 hrow2 hR2 hmap2 hrep2 hso hout
    have hsz2 := ht2.size
    have hvl := hR2.len
    show wk Tryd.prog _ 351 ((7, .pointer (some ⟨rb, 0, none⟩)) :: (25, .pointer (some ⟨bl, A.length, none⟩)) :: (9, .bool true) :: (35, .int .u32 (m : Int)) :: τ) _ w2
    by_cases h0 : m = 0
    · subst h0
      have c1' : cmp .gtr ((0 : Nat) : Int) 0 = some false := rfl
      refine wk_seq ?_
      refine wk_seq ?_
      refine wk_reg (id := 79) ?_
      refine wk_move rfl rfl ?_
      refine wk_cmp rfl rfl (by with_reducible assumption) rfl ?_
      refine wk_nil ?_
      refine wk_condF rfl ?_
      refine wk_loopExit ?_
      refine wk_raw (fun a' ha' => ?_)
      show wpT Tryd.prog Q k a' w2
      have hfit1 : 5 + [c1, c2, c3].length ≤ cs.length := by simp; omega
      have hfit2 : 11 + [CV.tags acc].length ≤ (setAt cs 5 [c1, c2, c3]).length := by rw [setAt_length hfit1]; simp; omega
      have hk2 : Keeps X w w2 := ht2.keeps hXr hXb
      refine q1 a' w2 vr [c1, c2, c3] acc s2 (hout.symm.trans rfl) ⟨⟨ha'.2.1.trans hd.symm, ht2⟩, ha'.1, hsame a' _ ha' rfl rfl rfl (by repeat (first | exact Fr.base | refine Fr.step rfl ?_))⟩
        ⟨hXb, hXr, hne, fun b hb => Nat.lt_of_lt_of_le (hxlt b hb) hsz2, hrow2, ?_, ?_, hr2.mono (fun b _ hx => .inr hx), hgX, herr w2 ht2⟩ hvl ?_
      · rw [setAt_length hfit2, setAt_length hfit1, hvl, hcl]
      · intro q v c' hv hc
        rw [setAt_get hfit2] at hc
        by_cases e2 : q = 11
        · subst e2
          rw [hR2.map] at hv
          rw [if_neg (by omega), if_pos (by simp), Nat.sub_self] at hc
          cases hv
          cases hc
          rcases hmap2 with ⟨rfl, rfl⟩ | ⟨r, ents, cl, rfl, hbr, hre, hst, hT, hne'⟩
          · exact .tnil
          · exact .tags r ents cl acc (fun hx => by have := hxlt r hx; omega) hre hst (hT.mono (fun b _ h => .inr h)) hne'
        · have hc : (setAt cs 5 [c1, c2, c3])[q]? = some c' := by
            split at hc
            · exact hc
            · rw [if_neg (by simp; omega)] at hc; exact hc
          rw [setAt_get hfit1] at hc
          have hml : ∀ {u : Value} {c : CV}, Rep w2 (XM X mv) u c → Rep w2 X u c := fun h => h.mono (fun b _ hx => .inl hx)
          by_cases e5 : q = 5
          · subst e5
            rw [if_neg (by omega), if_pos (by simp)] at hc
            cases hc
            exact hml (hrep2.r1 v hv)
          · by_cases e6 : q = 6
            · subst e6
              rw [if_neg (by omega), if_pos (by simp)] at hc
              cases hc
              exact hml (hrep2.r2 v hv)
            · by_cases e7 : q = 7
              · subst e7
                rw [if_neg (by omega), if_pos (by simp)] at hc
                cases hc
                exact hml (hrep2.r3 v hv)
              · have hc : cs[q]? = some c' := by
                  split at hc
                  · exact hc
                  · rw [if_neg (by simp; omega)] at hc; exact hc
                rw [hR2.out q e5 e6 e7 e2] at hv
                exact (hS.rep q v c' hv hc).keep hk2
      · intro q hq
        exact hR2.out q (by omega) (by omega) (by omega) (by omega)
    · have c1' : cmp .gtr (m : Int) 0 = some true := by simp only [cmp, Option.some.injEq, decide_eq_true_eq]; omega
      refine wk_seq ?_
      refine wk_seq ?_
      refine wk_reg (id := 79) ?_
      refine wk_move rfl rfl ?_
      refine wk_cmp rfl rfl (by with_reducible assumption) rfl ?_
      refine wk_nil ?_
      refine wk_condT rfl ?_
      refine wk_skip ?_
      refine wk_seq ?_
      refine wk_block ?_
      refine wk_seq ?_
      refine wk_reg (id := 81) ?_
      refine wk_call Tryd.call48 (vs := [.pointer (some ⟨rb, 0, none⟩)]) rfl rfl ((rd_Uvarint w2 _ rb s2 hr2 (.inr hXr)).mono ?_)
      rintro e w3 ⟨rfl, hr3, hg3⟩
      refine ⟨_, rfl, ?_⟩
      obtain ⟨q, hq⟩ : ∃ q, m = q + 1 := ⟨m - 1, by omega⟩
      subst hq
      have hsub : IntKind.u32.wrap (((q + 1 : Nat) : Int) - 1) = (q : Int) := by rw [show ((q + 1 : Nat) : Int) - 1 = (q : Int) by omega]; exact u32n q (by omega)
      have hb1 := rUv_bound s2
      have hb2 := rUv_bound (rUv s2).2
      have hwz := i64wr ((rUv (rUv s2).2).1 : Int) (by omega) (by omega)
      have ht3 : Turn w w3 rb bl := ht2.trans (Turn.of_grown hg3)
      have hrow3 := (hg3.block bl (lt_of_some hrow2) (by intro e; cases e; exact hne rfl)).trans hrow2
      have hgem := mapAt_ge hmap2
      refine wk_assign rfl rfl ?_
      refine wk_nil ?_
      refine wk_seq ?_
      refine wk_reg (id := 82) ?_
      refine wk_move rfl rfl ?_
      refine wk_nil ?_
      refine wk_block ?_
      by_cases hk0 : (rUv s2).1 = 0
      · have c2' : cmp .eql ((rUv s2).1 : Int) 0 = some true := by simp [cmp, hk0]
        refine wk_seq ?_
        refine wk_reg (id := 84) ?_
        refine wk_cmp rfl rfl (by with_reducible assumption) rfl ?_
        refine wk_assign rfl rfl ?_
        refine wk_nil ?_
        refine wk_condT rfl ?_
        refine wk_seq ?_
        refine wk_reg (id := 85) ?_
        refine wk_call Tryd.call48 (vs := [.pointer (some ⟨rb, 0, none⟩)]) rfl rfl ((rd_Uvarint w3 _ rb _ hr3 (.inr hXr)).mono ?_)
        rintro e w4 ⟨rfl, hr4, hg4⟩
        refine ⟨_, rfl, ?_⟩
        refine wk_convV rfl Tryd.underlying64 Tryd.underlying3 (by with_reducible assumption) rfl ?_
        refine wk_call Tryd.call50 (vs := [.pointer (some ⟨rb, 0, none⟩), .int .i64 ((rUv (rUv s2).2).1 : Int)]) rfl rfl ((rd_Span w4 _ rb _ ((rUv (rUv s2).2).1 : Int) hr4 (.inr hXr)).mono ?_)
        rintro e w5 ⟨v5, rfl, hs5, hr5, hg5⟩
        refine ⟨_, rfl, ?_⟩
        have hstep : kloop fTagP (q + 1) [c1, c2, c3] acc s2 = (match fTagP [c1, c2, c3] ⟨(rSpan ((rUv (rUv s2).2).1 : Int) (rUv (rUv s2).2).2).1, false⟩ with
          | none => none
          | some (v', t) => if t.bad then none else kloop fTagP q v' acc (rSpan ((rUv (rUv s2).2).1 : Int) (rUv (rUv s2).2).2).2) := by
          simp only [kloop]
          rw [if_pos hk0]
          rfl
        rw [hstep] at hout
        clear hstep
        generalize rSpan ((rUv (rUv s2).2).1 : Int) (rUv (rUv s2).2).2 = p5 at *
        obtain ⟨sp, s5⟩ := p5
        simp only at hs5 hr5 hout
        have hg35 := grown_trans1 hg4 hg5
        have ht5 : Turn w w5 rb bl := ht3.trans (Turn.of_grown hg35)
        have ht25 : Turn w2 w5 rb bl := (Turn.of_grown hg3).trans (Turn.of_grown hg35)
        have hrow5 := (hg35.block bl (lt_of_some hrow3) (by intro e; cases e; exact hne rfl)).trans hrow3
        obtain ⟨A5, n5, c5, rfl⟩ : ∃ A n c, v5 = .slice A n c := by
          cases sp with
          | none => exact ⟨_, _, _, hs5⟩
          | some l => obtain ⟨b, o, n, c, e, _⟩ := hs5; exact ⟨_, _, _, e⟩
        have hone5 : (Value.slice A5 n5 c5).oneCell' = true := rfl
        refine wk_val (w' := w5) (v := .agg #[.slice A5 n5 c5, .bool false]) (fun a ha => by
          have hv := ha.ev (x := .tmp 216) (v := .slice A5 n5 c5) rfl
          have := run_build (P := Tryd.prog) w5 75 #[(0, .slice A5 n5 c5)] _ (by simpa using rBuildK A5 n5 c5)
          simp [execOp, hv, this]) rfl ?_
        refine wk_alloc (t := 75) (i := Tryd.t75) (by kernel_rfl) rfl rfl ?_
        refine wk_storeNew (w0 := w5) (c' := #[.slice A5 n5 c5, .bool false]) rfl rfl rInfoK rfl rfl (one2 hone5 rfl) ?_
        have hb6 : Below w5.heap.size w5 (w5.alloc (.cells #[.slice A5 n5 c5, .bool false] 75)) := below1 _ _
        have hsz5 := ht5.size
        generalize hw6 : w5.alloc (.cells #[.slice A5 n5 c5, .bool false] 75) = w6 at hb6 ⊢
        have hrd6r : w6.heap[w5.heap.size]? = some (.cells #[.slice A5 n5 c5, .bool false] 75 (0, 0)) := by rw [← hw6]; exact heap_alloc_last _ _
        have hsz6 : w5.heap.size < w6.heap.size := lt_of_some hrd6r
        clear hw6
        have ht6 : Turn w w6 rb bl := ht5.trans (Turn.of_below hb6)
        have ht26 : Turn w2 w6 rb bl := ht25.trans (Turn.of_below hb6)
        have hrow6 := (hb6.block bl (lt_of_some hrow5)).trans hrow5
        have hr6 : RdOK w6 (fun b => w.heap.size ≤ b ∨ X b) 75 rb s5 := hr5.fresh hb6
        have hk56 : Keeps (fun b => w.heap.size ≤ b ∨ X b) w5 w6 := ⟨hb6.size, fun b hb _ => hb6.block b hb⟩
        obtain ⟨XI, hXI⟩ : ∃ XI : Nat → Prop, XI = fun b => (w.heap.size ≤ b ∧ b < w6.heap.size) ∨ X b := ⟨_, rfl⟩
        have hXIlt : ∀ b, XI b → b < w6.heap.size := fun b h => by
          rw [hXI] at h
          exact h.elim (fun h => h.2) (fun h => by have := hxlt b h; omega)
        have hXIi : XI w5.heap.size := by rw [hXI]; exact .inl ⟨by omega, hsz6⟩
        have hXIb : XI bl := by rw [hXI]; exact .inr hXb
        have hbli : bl ≠ w5.heap.size := by omega
        have hq6 : RdOK w6 XI 75 w5.heap.size ⟨sp, false⟩ :=
          ⟨_, hrd6r, (hs5.keep hk56).mono (fun b _ h => by rw [hXI] at h; exact h.elim (fun h => .inl h.1) .inr)⟩
        refine wk_nil ?_
        refine wk_seq ?_
        refine wk_reg (id := 86) ?_
        refine wk_move rfl rfl ?_
        refine wk_nilCheck rfl rfl ?_
        refine wk_field (f := 3) (i := Tryd.t58) rfl Tryd.underlying60 rfl (by kernel_rfl) (by decide) rfl ?_
        refine wk_assign rfl rfl ?_
        refine wk_nil ?_
        refine wk_seq ?_
        refine wk_reg (id := 87) ?_
        refine wk_move rfl rfl ?_
        refine wk_call Tryd.call29 (vs := [.pointer (some ⟨bl, A.length + 5, none⟩)]) rfl rfl ((c_LeadDef w6 _).mono ?_)
        rintro e w6' ⟨rfl, rfl⟩
        refine ⟨_, rfl, ?_⟩
        refine wk_nil ?_
        refine wk_seq ?_
        refine wk_reg (id := 88) ?_
        refine wk_move rfl rfl ?_
        refine wk_assign rfl rfl ?_
        refine wk_nil ?_
        refine wk_seq ?_
        refine wk_seq ?_
        refine wk_reg (id := 89) ?_
        refine wk_call Tryd.call31 (vs := [.pointer (some ⟨w5.heap.size, 0, none⟩)]) rfl rfl ((rd_Int32 w6' _ w5.heap.size ⟨sp, false⟩ hq6 hXIi hXIlt).mono ?_)
        rintro e w7 ⟨v7, rfl, hrep7, hq7, hg7⟩
        refine ⟨_, rfl, ?_⟩
        have hf : fTagP [c1, c2, c3] ⟨sp, false⟩ = some ([.int .i32 (rI .i32 4 ⟨sp, false⟩).1, .int .i32 (rI .i32 4 (rI .i32 4 ⟨sp, false⟩).2).1, .tags (rTags (rI .i32 4 (rI .i32 4 ⟨sp, false⟩).2).2).1], (rTags (rI .i32 4 (rI .i32 4 ⟨sp, false⟩).2).2).2) := rfl
        have hp7 : ∀ t : RS, rprim .i32 t = ([.int .i32 (rI .i32 4 t).1], (rI .i32 4 t).2) := fun _ => rfl
        rw [hp7] at hrep7 hq7
        rw [hf] at hout
        simp only at hout hq7
        generalize rI .i32 4 ⟨sp, false⟩ = p7 at *
        obtain ⟨x7, t7⟩ := p7
        simp only at hout hq7 hrep7
        obtain ⟨c7, hc7, hrep7⟩ := hrep7
        cases hc7
        obtain rfl := hrep7.int_inv
        have ht67 : Turn w6' w7 w5.heap.size bl := Turn.of_grown hg7
        have hrow7 := (hg7.block bl (lt_of_some hrow6) (by intro e; cases e; exact hbli rfl)).trans hrow6
        refine wk_assign rfl rfl ?_
        refine wk_nil ?_
        refine wk_reg (id := 90) ?_
        refine wk_move rfl rfl ?_
        refine wk_move rfl rfl ?_
        refine wk_nilCheck rfl rfl ?_
        refine wk_field (f := 0) (i := Tryd.t21) rfl Tryd.underlying58 rfl (by kernel_rfl) (by decide) rfl ?_
        refine wk_store1 (o := A.length + 5) (i := Tryd.t21) rfl rfl hrow7 (by kernel_rfl) rfl rfl rfl (by simp; omega) ?_
        rw [spl_mid (by omega)]
        have hrow8 := setRow_heap _ _ _ (A ++ (vr.set 5 (.int .i32 x7) ++ C)).toArray _ _ hrow7
        have ht68 : Turn w6' (w7.setRow bl (A ++ (vr.set 5 (.int .i32 x7) ++ C)).toArray) w5.heap.size bl := ht67.trans (Turn.setRow w7 _ bl _)
        have hq8 : RdOK (w7.setRow bl (A ++ (vr.set 5 (.int .i32 x7) ++ C)).toArray) XI 75 w5.heap.size t7 := by
          obtain ⟨v, h1, h2⟩ := hq7
          exact ⟨v, (setRow_other _ _ _ _ (Ne.symm hbli)).trans h1, h2.keep ((Turn.setRow w7 w5.heap.size bl _).keeps hXIi hXIb)⟩
        generalize w7.setRow bl (A ++ (vr.set 5 (.int .i32 x7) ++ C)).toArray = w8 at *
        refine wk_nil ?_
        refine wk_seq ?_
        refine wk_seq ?_
        refine wk_reg (id := 91) ?_
        refine wk_call Tryd.call31 (vs := [.pointer (some ⟨w5.heap.size, 0, none⟩)]) rfl rfl ((rd_Int32 w8 _ w5.heap.size t7 hq8 hXIi (fun b h => Nat.lt_of_lt_of_le (hXIlt b h) ht68.size)).mono ?_)
        rintro e w9 ⟨v9, rfl, hrep9, hq9, hg9⟩
        refine ⟨_, rfl, ?_⟩
        rw [hp7] at hrep9 hq9
        simp only at hq9
        generalize rI .i32 4 t7 = p9 at *
        obtain ⟨x9, t9⟩ := p9
        simp only at hout hq9 hrep9
        obtain ⟨c9, hc9, hrep9⟩ := hrep9
        cases hc9
        obtain rfl := hrep9.int_inv
        have ht69 : Turn w6' w9 w5.heap.size bl := ht68.trans (Turn.of_grown hg9)
        have hrow9 := (hg9.block bl (lt_of_some hrow8) (by intro e; cases e; exact hbli rfl)).trans hrow8
        refine wk_assign rfl rfl ?_
        refine wk_nil ?_
        refine wk_reg (id := 92) ?_
        refine wk_move rfl rfl ?_
        refine wk_move rfl rfl ?_
        refine wk_nilCheck rfl rfl ?_
        refine wk_field (f := 1) (i := Tryd.t21) rfl Tryd.underlying58 rfl (by kernel_rfl) (by decide) rfl ?_
        refine wk_store1 (o := A.length + 6) (i := Tryd.t21) rfl rfl hrow9 (by kernel_rfl) rfl rfl rfl (by simp; omega) ?_
        rw [spl_mid (by simp; omega)]
        have hrow10 := setRow_heap _ _ _ (A ++ ((vr.set 5 (.int .i32 x7)).set 6 (.int .i32 x9) ++ C)).toArray _ _ hrow9
        have ht610 : Turn w6' (w9.setRow bl (A ++ ((vr.set 5 (.int .i32 x7)).set 6 (.int .i32 x9) ++ C)).toArray) w5.heap.size bl := ht69.trans (Turn.setRow w9 _ bl _)
        have hq10 : RdOK (w9.setRow bl (A ++ ((vr.set 5 (.int .i32 x7)).set 6 (.int .i32 x9) ++ C)).toArray) XI 75 w5.heap.size t9 := by
          obtain ⟨v, h1, h2⟩ := hq9
          exact ⟨v, (setRow_other _ _ _ _ (Ne.symm hbli)).trans h1, h2.keep ((Turn.setRow w9 w5.heap.size bl _).keeps hXIi hXIb)⟩
        generalize w9.setRow bl (A ++ ((vr.set 5 (.int .i32 x7)).set 6 (.int .i32 x9) ++ C)).toArray = w10 at *
        refine wk_nil ?_
        refine wk_seq ?_
        refine wk_seq ?_
        refine wk_reg (id := 93) ?_
        refine wk_move rfl rfl ?_
        refine wk_nil ?_
        refine wk_condT rfl ?_
        refine wk_reg (id := 94) ?_
        refine wk_move rfl rfl ?_
        refine wk_call Tryd.call45 (vs := [.pointer (some ⟨w5.heap.size, 0, none⟩)]) rfl rfl ((rd_Tags w10 XI w5.heap.size t9 hq10 hXIi (fun b h => Nat.lt_of_lt_of_le (hXIlt b h) ht610.size)).mono ?_)
        rintro e w11 ⟨v11, rfl, hrep11, hq11, hg11⟩
        refine ⟨_, rfl, ?_⟩
        generalize rTags t9 = p11 at *
        obtain ⟨l11, t11⟩ := p11
        simp only at hout hq11 hrep11
        have ht611 : Turn w6' w11 w5.heap.size bl := ht610.trans (Turn.of_grown hg11)
        have hrow11 := (hg11.block bl (lt_of_some hrow10) (by intro e; cases e; exact hbli rfl)).trans hrow10
        refine wk_nilCheck rfl rfl ?_
        refine wk_field (f := 2) (i := Tryd.t42) rfl Tryd.underlying58 rfl (by kernel_rfl) (by decide) rfl ?_
        refine wk_storeA1 (o := A.length + 7) (i := Tryd.t42) rfl rfl hrow11 (by kernel_rfl) rfl hrep11.oneCell (by simp; omega) ?_
        rw [spl_mid (by simp; omega)]
        have hrow12 := setRow_heap _ _ _ (A ++ (((vr.set 5 (.int .i32 x7)).set 6 (.int .i32 x9)).set 7 v11 ++ C)).toArray _ _ hrow11
        have ht612 : Turn w6' (w11.setRow bl (A ++ (((vr.set 5 (.int .i32 x7)).set 6 (.int .i32 x9)).set 7 v11 ++ C)).toArray) w5.heap.size bl := ht611.trans (Turn.setRow w11 _ bl _)
        have hq12 : RdOK (w11.setRow bl (A ++ (((vr.set 5 (.int .i32 x7)).set 6 (.int .i32 x9)).set 7 v11 ++ C)).toArray) XI 75 w5.heap.size t11 := by
          obtain ⟨v, h1, h2⟩ := hq11
          exact ⟨v, (setRow_other _ _ _ _ (Ne.symm hbli)).trans h1, h2.keep ((Turn.setRow w11 w5.heap.size bl _).keeps hXIi hXIb)⟩
        have hrep12 : Rep (w11.setRow bl (A ++ (((vr.set 5 (.int .i32 x7)).set 6 (.int .i32 x9)).set 7 v11 ++ C)).toArray) XI v11 (.tags l11) := hrep11.keep ((Turn.setRow w11 w5.heap.size bl _).keeps hXIi hXIb)
        generalize w11.setRow bl (A ++ (((vr.set 5 (.int .i32 x7)).set 6 (.int .i32 x9)).set 7 v11 ++ C)).toArray = w12 at *
        have ht12 : Turn w w12 rb bl := ht6.inner ht612 (by omega)
        refine wk_nil ?_
        refine wk_seq ?_
        refine wk_reg (id := 95) ?_
        refine wk_call Tryd.call36 (vs := [.pointer (some ⟨w5.heap.size, 0, none⟩)]) rfl rfl ((rd_Complete 1 E rfl w12 _ w5.heap.size t11 hq12 (herr w12 ht12)).mono ?_)
        rintro e w13 ⟨rfl, rfl⟩
        refine ⟨_, rfl, ?_⟩
        refine wk_assign rfl rfl ?_
        refine wk_nil ?_
        refine wk_seq ?_
        refine wk_reg (id := 96) ?_
        refine wk_move rfl rfl ?_
        refine wk_neqnil (E := E) (bad := t11.bad) rfl Tryd.underlying35 hE rfl ?_
        cases hbad : t11.bad with
        | true =>
          refine wk_nil ?_
          refine wk_condT rfl ?_
          refine wk_seq ?_
          refine wk_reg (id := 97) ?_
          refine wk_move rfl rfl ?_
          refine wk_assign rfl rfl ?_
          refine wk_nil ?_
          refine wk_raw (fun a' ha' => ?_)
          refine wpT_ret ?_
          rw [if_pos hbad] at hout
          exact q2 a' w13 hout.symm ⟨ha'.2.1.trans hd.symm, ht12⟩ (ha'.2.2 6 _ rfl)
        | false =>
          rw [if_neg (by rw [hbad]; simp)] at hout
          refine wk_nil ?_
          refine wk_condF rfl ?_
          refine wk_skip ?_
          refine wk_blockEnd ?_
          refine wk_blockEnd ?_
          refine wk_reg (id := 80) ?_
          refine wk_move rfl rfl ?_
          refine wk_subV rfl rfl (by with_reducible assumption) rfl ?_
          refine wk_assign rfl rfl ?_
          refine wk_nil ?_
          have hrow6' := hrow6
          refine wk_loopNextW (q, ((((vr.set 5 (.int .i32 x7)).set 6 (.int .i32 x9)).set 7 v11), .int .i32 x7, .int .i32 x9, .tags l11), (mv, acc), s5) (Nat.lt_succ_self q) (pre_sub hτ0 rfl (by repeat (first | exact Fr.base | refine Fr.step rfl ?_))) ⟨by simp only; omega, ht12, ?_, hrow12, ?_, ?_, ?_, hso, hout⟩
          · exact hr6.turnI ht612 (by omega) (Ne.symm hne) (.inl (by omega)) (.inr hXb)
          · refine ⟨by simp [hvl], fun q h5 h6 h7 h11 => ?_, ?_⟩
            · simp only
              rw [List.getElem?_set_ne (Ne.symm h7), List.getElem?_set_ne (Ne.symm h6), List.getElem?_set_ne (Ne.symm h5)]
              exact hR2.out q h5 h6 h7 h11
            · simp only
              rw [List.getElem?_set_ne (by omega), List.getElem?_set_ne (by omega), List.getElem?_set_ne (by omega)]
              exact hR2.map
          · show MapAt w13 _ _ mv acc
            refine MapAt.keep (w := w6') (MapAt.keep (w := w2) hmap2 (ht26.keeps (.inr hXr) (.inr hXb)) ?_) (ht612.keeps (.inl (by omega)) (.inr hXb)) ?_
            · intro r es cl h
              refine (ht26.block r (lt_of_some h) ?_ ?_).trans h
              · rintro rfl
                obtain ⟨v, h1, _⟩ := hr2
                rw [h] at h1
                cases h1
              · rintro rfl
                rw [h] at hrow2
                cases hrow2
            · intro r es cl h
              refine (ht612.block r (lt_of_some h) ?_ ?_).trans h
              · rintro rfl
                rw [h] at hrd6r
                cases hrd6r
              · rintro rfl
                rw [h] at hrow6
                cases hrow6
          · refine ⟨fun v hv => ?_, fun v hv => ?_, fun v hv => ?_⟩
            · simp only at hv
              rw [List.getElem?_set_ne (by omega), List.getElem?_set_ne (by omega), List.getElem?_set_self (by omega)] at hv
              cases hv
              exact .int _ _
            · simp only at hv
              rw [List.getElem?_set_ne (by omega), List.getElem?_set_self (by simp; omega)] at hv
              cases hv
              exact .int _ _
            · simp only at hv
              rw [List.getElem?_set_self (by simp; omega)] at hv
              cases hv
              refine hrep12.mono (fun b _ hx => ?_)
              rw [hXI]
              rcases hx with hx | hx
              · exact .inr hx
              · obtain ⟨h1, h2, _⟩ := hgem b hx
                exact .inl ⟨h1, by have := ht26.size; omega⟩
      · have c2' : cmp .eql ((rUv s2).1 : Int) 0 = some false := by simp [cmp]; omega
        refine wk_seq ?_
        refine wk_reg (id := 84) ?_
        refine wk_cmp rfl rfl (by with_reducible assumption) rfl ?_
        refine wk_assign rfl rfl ?_
        refine wk_nil ?_
        refine wk_condF rfl ?_
        have hstep : kloop fTagP (q + 1) [c1, c2, c3] acc s2 = kloop fTagP q [c1, c2, c3] (tagSet (rUv s2).1 (orNil (rSpan ((rUv (rUv s2).2).1 : Int) (rUv (rUv s2).2).2).1) acc) (rSpan ((rUv (rUv s2).2).1 : Int) (rUv (rUv s2).2).2).2 := by
          simp only [kloop]
          rw [if_neg hk0]
        rw [hstep] at hout
        clear hstep
        refine wk_draw (fun _ => True) [(0, true), (1, true), (2, true), (3, true), (4, false), (5, true), (6, false), (7, false)] mixedR (pqb (pqb (pql pqh))) (by kernel_rfl) (by kernel_rfl) (by kernel_rfl) (fun _ _ _ => trivial) ?_
        intro w3' h3' hb3'
        have hr3' := hr3.fresh hb3'
        have ht3' : Turn w w3' rb bl := ht3.trans (Turn.of_below hb3')
        have hrow3' := (hb3'.block bl (lt_of_some hrow3)).trans hrow3
        refine wd_move rfl rfl rfl ?_
        refine wd_nilCheck rfl rfl rfl ?_
        refine wd_field (f := 7) (ti := Tryd.t42) rfl rfl Tryd.underlying60 rfl (by kernel_rfl) (by decide) rfl ?_
        refine wd_move rfl rfl rfl ?_
        refine wd_call rfl Tryd.call48 (vs := [.pointer (some ⟨rb, 0, none⟩)]) rfl rfl ((rd_Uvarint w3' _ rb _ hr3' (.inr hXr)).mono ?_)
        rintro e w4 ⟨rfl, hr4, hg4⟩
        refine ⟨_, rfl, trivial, ?_⟩
        refine wd_convV rfl rfl Tryd.underlying64 Tryd.underlying3 hwz rfl ?_
        refine wd_call rfl Tryd.call50 (vs := [.pointer (some ⟨rb, 0, none⟩), .int .i64 ((rUv (rUv s2).2).1 : Int)]) rfl rfl ((rd_Span w4 _ rb _ ((rUv (rUv s2).2).1 : Int) hr4 (.inr hXr)).mono ?_)
        rintro e w5 ⟨v5, rfl, hs5, hr5, hg5⟩
        refine ⟨_, rfl, trivial, ?_⟩
        have hg35 := grown_trans1 hg4 hg5
        have ht5 : Turn w w5 rb bl := ht3'.trans (Turn.of_grown hg35)
        have ht25 : Turn w2 w5 rb bl := ((Turn.of_grown hg3).trans (Turn.of_below hb3')).trans (Turn.of_grown hg35)
        have hrow5 := (hg35.block bl (lt_of_some hrow3') (by intro e; cases e; exact hne rfl)).trans hrow3'
        have hsz5 := ht5.size
        have hmap5 : MapAt w5 w.heap.size (fun b => w.heap.size ≤ b ∨ X b) mv acc := MapAt.keep (w := w2) hmap2 (ht25.keeps (.inr hXr) (.inr hXb)) (by
          intro r es cl h
          refine (ht25.block r (lt_of_some h) ?_ ?_).trans h
          · intro e
            subst e
            obtain ⟨v, h1, _⟩ := hr2
            rw [h] at h1
            cases h1
          · intro e
            subst e
            rw [h] at hrow2
            cases hrow2)
        have hrep5 := hrep2.keep (ht25.keeps hXr hXb)
        generalize rSpan ((rUv (rUv s2).2).1 : Int) (rUv (rUv s2).2).2 = p5 at *
        obtain ⟨sp, s5⟩ := p5
        simp only at hs5 hr5 hout
        have hvl11 : 11 < vr.length := by omega
        refine wd_call rfl Tryd.call49 (vs := [.pointer (some ⟨bl, A.length + 11, none⟩), .int .u32 ((rUv s2).1 : Int), v5]) rfl rfl
          ((c_TagsSetAt w5 w.heap.size bl (A.length + 11) (rUv s2).1 (fun b => w.heap.size ≤ b ∨ X b) (fun b h => .inl h) (.inr hXb) mv v5 acc (orNil sp) _ bt hrow5 (get_mid hR2.map) hsz5 hmap5 hso (by
            cases sp with
            | none => exact .inl ⟨⟨none, hs5⟩, rfl⟩
            | some b => exact .inr hs5)).mono ?_)
        rintro e w6 ⟨rfl, mv', hrow6, hmap6, hts⟩
        refine ⟨_, rfl, trivial, ?_⟩
        rw [spl_mid hvl11] at hrow6
        have hmge := mapAt_ge hmap5
        have ht6 : Turn w w6 rb bl := ⟨hts.os.trans ht5.os, hts.tape.trans ht5.tape, hts.output.trans ht5.output, Nat.le_trans hsz5 hts.size, fun b hb h1 h2 => (hts.block b (by omega) h2 (fun e => by have := (hmge b e).1; omega)).trans (ht5.block b hb h1 h2)⟩
        have hr6 : RdOK w6 (fun b => w.heap.size ≤ b ∨ X b) 75 rb s5 := by
          obtain ⟨v, h1, h2⟩ := hr5
          refine ⟨v, (hts.block rb (lt_of_some h1) (Ne.symm hne) (fun e => by have := (hmge rb e).1; omega)).trans h1, h2.keep ⟨hts.size, fun b hb hnx => hts.block b hb (fun e => hnx (.inr (e ▸ hXb))) (fun e => hnx (.inl (hmge b e).1))⟩⟩
        refine wd_done ?_
        refine wk_blockEnd ?_
        refine wk_blockEnd ?_
        refine wk_reg (id := 80) ?_
        refine wk_move rfl rfl ?_
        refine wk_subV rfl rfl (by with_reducible assumption) rfl ?_
        refine wk_assign rfl rfl ?_
        refine wk_nil ?_
        refine wk_loopNextW (q, (vr.set 11 mv', c1, c2, c3), (mv', tagSet (rUv s2).1 (orNil sp) acc), s5) (Nat.lt_succ_self q) (pre_sub hτ0 rfl (by repeat (first | exact Fr.base | refine Fr.step rfl ?_))) ⟨by simp only; omega, ht6, hr6, hrow6, ?_, hmap6, ?_, tagSet_sorted hso, hout⟩
        · refine ⟨by simp [hvl], fun q h5 h6 h7 h11 => ?_, ?_⟩
          · simp only
            rw [List.getElem?_set_ne (Ne.symm h11)]
            exact hR2.out q h5 h6 h7 h11
          · exact List.getElem?_set_self hvl11
        · refine ⟨fun v hv => ?_, fun v hv => ?_, fun v hv => ?_⟩
          · simp only at hv
            rw [List.getElem?_set_ne (by omega)] at hv
            exact hts.rep hXb (hrep5.r1 v hv)
          · simp only at hv
            rw [List.getElem?_set_ne (by omega)] at hv
            exact hts.rep hXb (hrep5.r2 v hv)
          · simp only at hv
            rw [List.getElem?_set_ne (by omega)] at hv
            exact hts.rep hXb (hrep5.r3 v hv)
end Go.Proofs.YtbcfmhgcpijfnaaDoor
