/-
  Tags of the message, one of them known (a list of structs): read by the code that stands in the loop.
-/
import Derived.Test.YtbcfmhgcpijfnaaDoorKReadP
import Derived.Test.YtbcfmhgcpijfnaaDoorKHand
set_option linter.unusedVariables false
set_option linter.unusedSimpArgs false
namespace Go.Proofs.YtbcfmhgcpijfnaaDoor
open Go Go.RowKit Go.Proofs.Eng
set_option maxRecDepth 20000
set_option maxHeartbeats 8000000
abbrev TNE : Nat := 72
theorem neInfo : Tryd.prog.info? TNE = some Tryd.t72 := by kernel_rfl
theorem neZero : ∃ z, Tryd.t72.zero = some z ∧ z.cells = zsNE.toArray := ⟨.agg zsNE.toArray, by kernel_rfl, rfl⟩
theorem neOne : ∀ u ∈ zsNE, u.oneCell' = true := by
  intro u hu
  simp only [zsNE, List.mem_cons, List.not_mem_nil, or_false] at hu
  rcases hu with rfl | rfl | rfl | rfl <;> rfl
theorem zsRep (w : World) (X : Nat → Prop) : ∀ (q : Nat) (v : Value) (c : CV), zsNE[q]? = some v → zcNE[q]? = some c → Rep w X v c := by
  intro q v c hv hc
  match q with
  | 0 => cases hv; cases hc; exact .int _ _
  | 1 => cases hv; cases hc; exact .str ByteArray.empty
  | 2 => cases hv; cases hc; exact .int _ _
  | 3 => cases hv; cases hc; exact .tnil
  | q + 4 => simp [zsNE] at hv
abbrev fTagT (body : RP) : List CV → RS → Option (List CV × RS) := fun c t => runR (.arr true 0 0 zcNE body .nil) c t
abbrev fNE (body : RP) : List CV → RS → Option (List CV × RS) := fun c t => runR body c t
abbrev IxT := Nat × (List Value × Value × CV) × (Value × List (Nat × List UInt8)) × RS
structure RowT (vals vr : List Value) (u mv : Value) : Prop where
  len : vr.length = vals.length
  out : ∀ q, q ≠ 4 → q ≠ 5 → vr[q]? = vals[q]?
  lst : vr[4]? = some u
  map : vr[5]? = some mv
/-- A list of the call's own, and what its things say. -/
def LstT (w : World) (base : Nat) (X : Nat → Prop) (mv u : Value) (c0 c : CV) : Prop :=
  ∃ (n : Nat) (xs : List Value), n < 2147483648 ∧ w.ownsRow base TNE 4 u n xs ∧ ((c = c0 ∧ u = .slice none 0 0) ∨ ∃ es : List CV, c = .arr (decide (n = 0)) n es ∧ es.length = xs.length ∧
    ∀ (q : Nat) (v : Value) (c : CV), xs[q]? = some v → es[q]? = some c → Rep w (XM (fun b => X b ∨ u.ownBlock = some b) mv) v c)
theorem own_heap {w w' : World} {base e n sz : Nat} {u : Value} {xs : List Value} (h : w.ownsRow base e sz u n xs) (hb : ∀ g, u.ownBlock = some g → w'.heap[g]? = w.heap[g]?) : w'.ownsRow base e sz u n xs := by
  refine ⟨h.1, ?_⟩
  rcases h.2 with h | ⟨g, cap, cur, rfl, h1, h2, h3⟩
  · exact .inl h
  · exact .inr ⟨g, cap, cur, rfl, h1, (hb g rfl).trans h2, h3⟩
theorem LstT.turn {w w' : World} {base : Nat} {X : Nat → Prop} {mv u : Value} {c0 c : CV} {rb bl : Nat} (h : LstT w base X mv u c0 c) (ht : Turn w w' rb bl) (hr : X rb) (hb : X bl) (hX : ∀ b, X b → b < base) : LstT w' base X mv u c0 c := by
  obtain ⟨n, xs, h1, h2, h3⟩ := h
  refine ⟨n, xs, h1, own_heap h2 (fun g hg => ?_), h3.imp id (fun ⟨es, h4, h5, h6⟩ => ⟨es, h4, h5, fun q v c hv hc => (h6 q v c hv hc).keep (ht.keeps (.inl (.inl hr)) (.inl (.inl hb)))⟩)⟩
  have := h2.lt g hg
  exact ht.block g this.2 (fun e => by have := hX rb hr; omega) (fun e => by have := hX bl hb; omega)
theorem LstT.ts {w w' : World} {base : Nat} {X Y : Nat → Prop} {mv mv' u : Value} {c0 c : CV} {bl : Nat} {l : List (Nat × List UInt8)} (h : LstT w base X mv u c0 c) (ht : TS w w' bl mv mv') (hb : X bl) (hX : ∀ b, X b → b < base) (hm : MapAt w base Y mv l) : LstT w' base X mv' u c0 c := by
  obtain ⟨n, xs, h1, h2, h3⟩ := h
  refine ⟨n, xs, h1, own_heap h2 (fun g hg => ?_), h3.imp id (fun ⟨es, h4, h5, h6⟩ => ⟨es, h4, h5, fun q v c hv hc => ht.rep (X := fun b => X b ∨ u.ownBlock = some b) (.inl hb) (h6 q v c hv hc)⟩)⟩
  have h4 := h2.lt g hg
  refine ht.block g h4.2 (fun e => by have := hX bl hb; omega) (fun e => ?_)
  obtain ⟨_, _, es, cl, h5⟩ := mapAt_ge hm g e
  rcases h2.2 with ⟨rfl, _⟩ | ⟨g', cap, cur, rfl, _, h6, _⟩
  · cases hg
  · simp only [Value.ownBlock, Option.some.injEq] at hg
    subst hg
    rw [h5] at h6
    cases h6
theorem own_cut {w : World} {base e n sz : Nat} {u : Value} {xs : List Value} (h : w.ownsRow base e sz u n xs) : ∃ A c, u = .slice A n c ∧ w.ownsRow base e sz (.slice A 0 c) 0 [] ∧ Value.ownBlock (.slice A 0 c) = u.ownBlock := by
  rcases h.2 with ⟨rfl, rfl⟩ | ⟨g, cap, cur, rfl, h1, h2, h3, h4, h5, h6⟩
  · exact ⟨none, 0, rfl, World.ownsRow_nil _ _ _ _, rfl⟩
  · exact ⟨_, cap, rfl, ⟨by simp, .inr ⟨g, cap, cur, rfl, h1, h2, Nat.zero_le _, h4, h5, by simp⟩⟩, rfl⟩
theorem c_NEDef (w : World) (p : Value) : Calls Tryd.prog 51 #[p] w fun e w' => e = .returned (.tuple #[]) ∧ w' = w := by
  refine calls_wk (args := [p]) Tryd.func51 rfl rfl ?_
  refine wk_skip ?_
  exact wk_end0 (fun _ _ h => h) rfl ⟨rfl, rfl⟩
def iRdT (w : World) (X : Nat → Prop) (rb bl : Nat) (A C vals : List Value) (bt : TypeId) (body : RP) (c0 : CV) (out : Option (List CV × List (Nat × List UInt8) × RS)) (i : IxT) (w' : World) : Prop :=
  i.1 < 4294967296 ∧ Turn w w' rb bl ∧ RdOK w' (fun b => w.heap.size ≤ b ∨ X b) 75 rb i.2.2.2 ∧ w'.heap[bl]? = some (.cells (A ++ (i.2.1.1 ++ C)).toArray bt (0, 0)) ∧ RowT vals i.2.1.1 i.2.1.2.1 i.2.2.1.1 ∧
  MapAt w' w.heap.size (fun b => w.heap.size ≤ b ∨ X b) i.2.2.1.1 i.2.2.1.2 ∧ LstT w' w.heap.size X i.2.2.1.1 i.2.1.2.1 c0 i.2.1.2.2 ∧ i.2.2.1.2.Pairwise (fun a b => a.1 < b.1) ∧ kloop (fTagT body) i.1 [i.2.1.2.2] i.2.2.1.2 i.2.2.2 = out
/-- A round of the list's loop: what was read of its things. -/
def iLs (wL : World) (rbi base : Nat) (XI : Nat → Prop) (u1 : Value) (n : Nat) (body : RP) (s7 : RS) (i : Nat × (List Value × List CV) × RS) (w' : World) : Prop :=
  i.1 ≤ n ∧ w'.os = wL.os ∧ w'.tape = wL.tape ∧ w'.output = wL.output ∧ wL.heap.size ≤ w'.heap.size ∧ (∀ b, b < wL.heap.size → b ≠ rbi → u1.ownBlock ≠ some b → w'.heap[b]? = wL.heap[b]?) ∧
  w'.ownsRow base TNE 4 u1 n (i.2.1.1 ++ zl zsNE (n - i.1)) ∧ i.2.1.1.length = i.1 * 4 ∧ i.2.1.2.length = i.1 * 4 ∧ (∀ (q : Nat) (v : Value) (c : CV), i.2.1.1[q]? = some v → i.2.1.2[q]? = some c → Rep w' XI v c) ∧
  RdOK w' XI 75 rbi i.2.2 ∧ loopR (fNE body) zcNE n s7 = (match loopR (fNE body) zcNE (n - i.1) i.2.2 with
    | none => none
    | some (es, t) => some (i.2.1.2 ++ es, t))
theorem hrT_ok {E : Value} (hE : ∃ u q, E = .iface u q) {T : Tab} {R : TabR} (hT : TabOK Tryd.prog T) (hR : TabROK Tryd.prog R 75 1 E) {ver : Int} {n0 : Nat} {rb0 : Res}
    (hx : execR T R 351 6 n0 false 0 zsNE 0 (sgNE ver) .none [.code codeNE] = some rb0) : HRContract Tryd.prog 75 1 E (hookRdT ver rb0.k) := by
  obtain ⟨body, hbody⟩ : ∃ b, b = rb0.k := ⟨_, rfl⟩
  rw [← hbody]
  intro X bl A C vals bt cs s rb w a Q k hS hn hd hrd hpv hmap hle hkn hkv q1 q2
  have hn : a.tmps.size = 351 := hn
  have hrd : a.eval (.tmp 7) = .pointer (some ⟨rb, 0, none⟩) := hrd
  have hpv : a.eval (.tmp 10) = .pointer (some ⟨bl, A.length, none⟩) := hpv
  have hmap : vals[5]? = some (.map none) := hmap
  have hls : vals[4]? = some (.slice none 0 0) := hkv (4, .slice none 0 0) (by simp [hookRdT])
  have hfx : a.eval (.tmp 9) = .bool true := hkn (9, .bool true) (by simp [hookRdT])
  have hve : a.eval (.tmp 8) = .int .i16 ver := hkn (8, .int .i16 ver) (by simp [hookRdT])
  have hun : a.eval (.tmp 2) = .bool false := hkn (2, .bool false) (by simp [hookRdT])
  have hcl : cs.length = vals.length := hS.len.symm
  have hot : 5 < vals.length := (List.getElem?_eq_some_iff.1 hmap).1
  obtain ⟨c0, hc0⟩ : ∃ c, cs[4]? = some c := ⟨_, List.getElem?_eq_getElem (by omega)⟩
  have hv0 : (cs.drop (hookRdT ver body).off).take (hookRdT ver body).w = [c0] := by
    show (cs.drop 4).take 1 = [c0]
    rw [List.take_one, List.head?_drop, hc0]
    rfl
  rw [hv0] at q1 q2
  have q1 : ∀ a' w' vals' v l s', kloop (fTagT body) (rUv s).1 [c0] [] (rUv s).2 = some (v, l, s') → AfterR a a' w w' rb bl 351 (wrC codeRdT) →
      StR w' X 75 1 E rb bl A C vals' bt (setAt (setAt cs 4 v) 5 [.tags l]) s' → vals'.length = vals.length → (∀ q, 5 < q → vals'[q]? = vals[q]?) → wpT Tryd.prog Q k a' w' := q1
  have q2 : ∀ a' w', kloop (fTagT body) (rUv s).1 [c0] [] (rUv s).2 = none → AfterN a a' w w' rb bl → a'.eval (.tmp 6) = E → Q .ret a' w' := q2
  have hxlt := hS.lt
  have hsame : ∀ (a' : Act) (σ : Sv), Knows 351 σ a' → Eng.look σ 7 = some (.pointer (some ⟨rb, 0, none⟩)) → Eng.look σ 10 = some (.pointer (some ⟨bl, A.length, none⟩)) → Eng.look σ 9 = some (.bool true) → Eng.look σ 8 = some (.int .i16 ver) → Eng.look σ 2 = some (.bool false) →
      Fr (7 :: 10 :: 9 :: 8 :: 2 :: wrRT) (tauOf (7 :: 10 :: 9 :: 8 :: 2 :: wrRT) 351 a) σ → ∀ t, t ∉ wrC codeRdT → a'.eval (.tmp t) = a.eval (.tmp t) := by
    intro a' σ hk h1 h2 h9 h8 h22 hF t ht
    by_cases e1 : t = 7
    · subst e1; rw [hk.2.2 _ _ h1, hrd]
    · by_cases e2 : t = 10
      · subst e2; rw [hk.2.2 _ _ h2, hpv]
      · by_cases e3 : t = 9
        · subst e3; rw [hk.2.2 _ _ h9, hfx]
        · by_cases e4 : t = 8
          · subst e4; rw [hk.2.2 _ _ h8, hve]
          · by_cases e5 : t = 2
            · subst e5; rw [hk.2.2 _ _ h22, hun]
            · refine hook_same hk hn hF t ?_
              have h3 : has wrRT t = false := by
                cases hh : has wrRT t with
                | false => rfl
                | true => exact absurd (has_iff.1 (allB_mem supRT t (has_iff.1 hh))) ht
              simp only [has, h3, Bool.or_false, Bool.or_eq_false_iff]
              exact ⟨beq_ne (Ne.symm e1), beq_ne (Ne.symm e2), beq_ne (Ne.symm e3), beq_ne (Ne.symm e4), beq_ne (Ne.symm e5)⟩
  suffices key : wk Tryd.prog (Qh Tryd.prog Q k) 351 ([(7, .pointer (some ⟨rb, 0, none⟩)), (10, .pointer (some ⟨bl, A.length, none⟩)), (9, .bool true), (8, .int .i16 ver), (2, .bool false)] ++ tauOf (7 :: 10 :: 9 :: 8 :: 2 :: wrRT) 351 a) [.code codeRdT] w from
    hook_wk key (hook_start hn hd (by
      intro p hp
      simp only [List.mem_cons, List.not_mem_nil, or_false] at hp
      rcases hp with rfl | rfl | rfl | rfl | rfl
      · exact hrd
      · exact hpv
      · exact hfx
      · exact hve
      · exact hun))
  have hτ0 : ∀ t v, Eng.look (tauOf (7 :: 10 :: 9 :: 8 :: 2 :: wrRT) 351 a) t = some v → has (7 :: 10 :: 9 :: 8 :: 2 :: wrRT) t = false := fun t v h => (tau_inv h).1
  generalize tauOf (7 :: 10 :: 9 :: 8 :: 2 :: wrRT) 351 a = τ at hsame hτ0 ⊢
  have hXr := hS.xr
  have hXb := hS.xb
  have hrb : rb < w.heap.size := hxlt rb hXr
  have hbl : bl < w.heap.size := hxlt bl hXb
  have hne : bl ≠ rb := hS.ne
  have hgX := hS.xg
  have herr0 := hS.err
  have hrY : RdOK w (fun b => w.heap.size ≤ b ∨ X b) 75 rb s := hS.rd.mono (fun b hb hy => hy.resolve_left (by omega))
  have herr : ∀ w' : World, Turn w w' rb bl → w'.cell? ⟨1, 0, none⟩ = some E := fun w' h => ((h.keeps hXr hXb).cell (a := ⟨1, 0, none⟩) hgX (lt_of_cell herr0)).trans herr0
  have hglt : 1 < w.heap.size := lt_of_cell herr0
  show wk Tryd.prog (Qh Tryd.prog Q k) 351 ((7, .pointer (some ⟨rb, 0, none⟩)) :: (10, .pointer (some ⟨bl, A.length, none⟩)) :: (9, .bool true) :: (8, .int .i16 ver) :: (2, .bool false) :: τ) [.code codeRdT] w
  refine wk_seq ?_
  refine wk_reg (id := 105) ?_
  refine wk_call Tryd.call48 (vs := [.pointer (some ⟨rb, 0, none⟩)]) rfl rfl ((rd_Uvarint w _ rb s hrY (.inr hXr)).mono ?_)
  rintro e w1 ⟨rfl, hr1, hg1⟩
  refine ⟨_, rfl, ?_⟩
  have hub := rUv_bound s
  generalize hp0 : rUv s = p0 at *
  obtain ⟨n, s1⟩ := p0
  simp only at hub hr1 q1 q2
  refine wk_assign rfl rfl ?_
  refine wk_nil ?_
  refine wk_loopW (fun i : IxT => [(7, .pointer (some ⟨rb, 0, none⟩)), (10, .pointer (some ⟨bl, A.length, none⟩)), (9, .bool true), (8, .int .i16 ver), (2, .bool false), (43, .int .u32 (i.1 : Int))] ++ τ)
    (iRdT w X rb bl A C vals bt body c0 (kloop (fTagT body) n [c0] [] s1)) (fun i => i.1) (n, (vals, .slice none 0 0, c0), (.map none, []), s1) (pre_sub hτ0 rfl (by repeat (first | exact Fr.base | refine Fr.step rfl ?_))) ?_ ?_
  · refine ⟨hub, Turn.of_grown hg1, hr1, ?_, ⟨rfl, fun _ _ _ => rfl, hls, hmap⟩, .inl ⟨rfl, rfl⟩, ⟨0, [], by omega, World.ownsRow_nil _ _ _ _, .inl ⟨rfl, rfl⟩⟩, by simp, rfl⟩
    exact (hg1.block bl hbl (by intro e; cases e; exact hne rfl)).trans hS.row
  · rintro ⟨m, ⟨vr, u, c⟩, ⟨mv, acc⟩, s2⟩ w2 ⟨hm, ht2, hr2, hrow2, hR2, hmap2, hlst2, hso, hout⟩
    simp only at hm hr2 hrow2 hR2 hmap2 hlst2 hso hout
    have hsz2 := ht2.size
    have hvl := hR2.len
    show wk Tryd.prog _ 351 ((7, .pointer (some ⟨rb, 0, none⟩)) :: (10, .pointer (some ⟨bl, A.length, none⟩)) :: (9, .bool true) :: (8, .int .i16 ver) :: (2, .bool false) :: (43, .int .u32 (m : Int)) :: τ) _ w2
    by_cases h0 : m = 0
    · subst h0
      have c1' : cmp .gtr ((0 : Nat) : Int) 0 = some false := rfl
      refine wk_seq ?_
      refine wk_seq ?_
      refine wk_reg (id := 106) ?_
      refine wk_move rfl rfl ?_
      refine wk_cmp rfl rfl (by with_reducible assumption) rfl ?_
      refine wk_nil ?_
      refine wk_condF rfl ?_
      refine wk_loopExit ?_
      refine wk_raw (fun a' ha' => ?_)
      show wpT Tryd.prog Q k a' w2
      have hfit1 : 4 + [c].length ≤ cs.length := by simp; omega
      have hfit2 : 5 + [CV.tags acc].length ≤ (setAt cs 4 [c]).length := by rw [setAt_length hfit1]; simp; omega
      have hk2 : Keeps X w w2 := ht2.keeps hXr hXb
      refine q1 a' w2 vr [c] acc s2 (hout.symm.trans rfl) ⟨⟨ha'.2.1.trans hd.symm, ht2⟩, ha'.1, hsame a' _ ha' rfl rfl rfl rfl rfl (by repeat (first | exact Fr.base | refine Fr.step rfl ?_))⟩
        ⟨hXb, hXr, hne, fun b hb => Nat.lt_of_lt_of_le (hxlt b hb) hsz2, hrow2, ?_, ?_, hr2.mono (fun b _ hx => .inr hx), hgX, herr w2 ht2⟩ hvl ?_
      · rw [setAt_length hfit2, setAt_length hfit1, hvl, hcl]
      · intro q v c' hv hc
        rw [setAt_get hfit2] at hc
        by_cases e2 : q = 5
        · subst e2
          rw [hR2.map] at hv
          rw [if_neg (by omega), if_pos (by simp), Nat.sub_self] at hc
          cases hv
          cases hc
          rcases hmap2 with ⟨rfl, rfl⟩ | ⟨r, ents, cl, rfl, hbr, hre, hst, hT', hne'⟩
          · exact .tnil
          · exact .tags r ents cl acc (fun hx => by have := hxlt r hx; omega) hre hst (hT'.mono (fun b _ h => .inr h)) hne'
        · have hc : (setAt cs 4 [c])[q]? = some c' := by
            split at hc
            · exact hc
            · rw [if_neg (by simp; omega)] at hc; exact hc
          rw [setAt_get hfit1] at hc
          by_cases e5 : q = 4
          · subst e5
            rw [if_neg (by omega), if_pos (by simp)] at hc
            rw [hR2.lst] at hv
            cases hv
            cases hc
            obtain ⟨nn, xs, hnn, hown, hcase⟩ := hlst2
            rcases hcase with ⟨rfl, rfl⟩ | ⟨es, rfl, hel, her⟩
            · exact (hS.rep 4 _ _ hls hc0).keep hk2
            · rcases hown.2 with ⟨rfl, rfl⟩ | ⟨g, cap, cur, rfl, hbg, hg, hnc, _, hcs, htk⟩
              · have : es = [] := List.eq_nil_of_length_eq_zero (by rw [hel, hown.1])
                subst this
                exact .anil _ _
              · by_cases hz : nn = 0
                · subst hz
                  have : es = [] := List.eq_nil_of_length_eq_zero (by rw [hel, hown.1])
                  subst this
                  exact .anil _ _
                · rw [decide_eq_false hz]
                  have hxl := hown.1
                  refine .arr g nn cap _ cur es (fun hx => by have := hxlt g hx; omega) hg ?_ hnc (fun q v c hv hc => ?_)
                  · rw [hel, hxl, hcs]
                    exact Nat.mul_le_mul_right _ hnc
                  · have hq : q < nn * 4 := by rw [← hxl, ← hel]; exact (List.getElem?_eq_some_iff.1 hc).1
                    refine (her q v c ?_ hc).mono (fun b _ hx => .inl (.inl hx))
                    rw [← htk, List.getElem?_take_of_lt hq]
                    simpa using hv
          · have hc : cs[q]? = some c' := by
              split at hc
              · exact hc
              · rw [if_neg (by simp; omega)] at hc; exact hc
            rw [hR2.out q e5 e2] at hv
            exact (hS.rep q v c' hv hc).keep hk2
      · intro q hq
        exact hR2.out q (by omega) (by omega)
    · have c1' : cmp .gtr (m : Int) 0 = some true := by simp only [cmp, Option.some.injEq, decide_eq_true_eq]; omega
      refine wk_seq ?_
      refine wk_seq ?_
      refine wk_reg (id := 106) ?_
      refine wk_move rfl rfl ?_
      refine wk_cmp rfl rfl (by with_reducible assumption) rfl ?_
      refine wk_nil ?_
      refine wk_condT rfl ?_
      refine wk_skip ?_
      refine wk_seq ?_
      refine wk_block ?_
      refine wk_seq ?_
      refine wk_reg (id := 108) ?_
      refine wk_call Tryd.call48 (vs := [.pointer (some ⟨rb, 0, none⟩)]) rfl rfl ((rd_Uvarint w2 _ rb s2 hr2 (.inr hXr)).mono ?_)
      rintro e w3 ⟨rfl, hr3, hg3⟩
      refine ⟨_, rfl, ?_⟩
      obtain ⟨q, hq⟩ : ∃ q, m = q + 1 := ⟨m - 1, by omega⟩
      subst hq
      have hsub : IntKind.u32.wrap (((q + 1 : Nat) : Int) - 1) = (q : Int) := by rw [show ((q + 1 : Nat) : Int) - 1 = (q : Int) by omega]; exact u32n q (by omega)
      have hb1 := rUv_bound s2
      have hb2 := rUv_bound (rUv s2).2
      have hwz := i64wr ((rUv (rUv s2).2).1 : Int) (by omega) (by omega)
      have ht3 : Turn w w3 rb bl := ht2.trans (Turn.of_grown hg3)
      have hrow3 := (hg3.block bl (lt_of_some hrow2) (by intro e; cases e; exact hne rfl)).trans hrow2
      have hgem := mapAt_ge hmap2
      refine wk_assign rfl rfl ?_
      refine wk_nil ?_
      refine wk_seq ?_
      refine wk_reg (id := 109) ?_
      refine wk_move rfl rfl ?_
      refine wk_nil ?_
      refine wk_block ?_
      by_cases hk0 : (rUv s2).1 = 0
      · have c2' : cmp .eql ((rUv s2).1 : Int) 0 = some true := by simp [cmp, hk0]
        refine wk_seq ?_
        refine wk_reg (id := 111) ?_
        refine wk_cmp rfl rfl (by with_reducible assumption) rfl ?_
        refine wk_assign rfl rfl ?_
        refine wk_nil ?_
        refine wk_condT rfl ?_
        refine wk_seq ?_
        refine wk_reg (id := 112) ?_
        refine wk_call Tryd.call48 (vs := [.pointer (some ⟨rb, 0, none⟩)]) rfl rfl ((rd_Uvarint w3 _ rb _ hr3 (.inr hXr)).mono ?_)
        rintro e w4 ⟨rfl, hr4, hg4⟩
        refine ⟨_, rfl, ?_⟩
        refine wk_convV rfl Tryd.underlying64 Tryd.underlying3 (by with_reducible assumption) rfl ?_
        refine wk_call Tryd.call50 (vs := [.pointer (some ⟨rb, 0, none⟩), .int .i64 ((rUv (rUv s2).2).1 : Int)]) rfl rfl ((rd_Span w4 _ rb _ ((rUv (rUv s2).2).1 : Int) hr4 (.inr hXr)).mono ?_)
        rintro e w5 ⟨v5, rfl, hs5, hr5, hg5⟩
        refine ⟨_, rfl, ?_⟩
        have hstep : kloop (fTagT body) (q + 1) [c] acc s2 = (match fTagT body [c] ⟨(rSpan ((rUv (rUv s2).2).1 : Int) (rUv (rUv s2).2).2).1, false⟩ with
          | none => none
          | some (v', t) => if t.bad then none else kloop (fTagT body) q v' acc (rSpan ((rUv (rUv s2).2).1 : Int) (rUv (rUv s2).2).2).2) := by
          simp only [kloop]
          rw [if_pos hk0]
          rfl
        rw [hstep] at hout
        clear hstep
        generalize rSpan ((rUv (rUv s2).2).1 : Int) (rUv (rUv s2).2).2 = p5 at *
        obtain ⟨sp, s5⟩ := p5
        simp only at hs5 hr5 hout
        have hg35 := grown_trans1 hg4 hg5
        have ht5 : Turn w w5 rb bl := ht3.trans (Turn.of_grown hg35)
        have ht25 : Turn w2 w5 rb bl := (Turn.of_grown hg3).trans (Turn.of_grown hg35)
        have hrow5 := (hg35.block bl (lt_of_some hrow3) (by intro e; cases e; exact hne rfl)).trans hrow3
        obtain ⟨A5, n5, c5, rfl⟩ : ∃ A n c, v5 = .slice A n c := by
          cases sp with
          | none => exact ⟨_, _, _, hs5⟩
          | some l => obtain ⟨b, o, n, c, e, _⟩ := hs5; exact ⟨_, _, _, e⟩
        have hone5 : (Value.slice A5 n5 c5).oneCell' = true := rfl
        refine wk_val (w' := w5) (v := .agg #[.slice A5 n5 c5, .bool false]) (fun a ha => by
          have hv := ha.ev (x := .tmp 278) (v := .slice A5 n5 c5) rfl
          have := run_build (P := Tryd.prog) w5 75 #[(0, .slice A5 n5 c5)] _ (by simpa using rBuildK A5 n5 c5)
          simp [execOp, hv, this]) rfl ?_
        refine wk_alloc (t := 75) (i := Tryd.t75) (by kernel_rfl) rfl rfl ?_
        refine wk_storeNew (w0 := w5) (c' := #[.slice A5 n5 c5, .bool false]) rfl rfl rInfoK rfl rfl (one2 hone5 rfl) ?_
        have hb6 : Below w5.heap.size w5 (w5.alloc (.cells #[.slice A5 n5 c5, .bool false] 75)) := below1 _ _
        have hsz5 := ht5.size
        generalize hw6 : w5.alloc (.cells #[.slice A5 n5 c5, .bool false] 75) = w6 at hb6 ⊢
        have hrd6r : w6.heap[w5.heap.size]? = some (.cells #[.slice A5 n5 c5, .bool false] 75 (0, 0)) := by rw [← hw6]; exact heap_alloc_last _ _
        have hsz6 : w5.heap.size < w6.heap.size := lt_of_some hrd6r
        clear hw6
        have ht6 : Turn w w6 rb bl := ht5.trans (Turn.of_below hb6)
        have ht26 : Turn w2 w6 rb bl := ht25.trans (Turn.of_below hb6)
        have hrow6 := (hb6.block bl (lt_of_some hrow5)).trans hrow5
        have hr6 : RdOK w6 (fun b => w.heap.size ≤ b ∨ X b) 75 rb s5 := hr5.fresh hb6
        have hk56 : Keeps (fun b => w.heap.size ≤ b ∨ X b) w5 w6 := ⟨hb6.size, fun b hb _ => hb6.block b hb⟩
        have hlst6 := hlst2.turn ht26 hXr hXb hxlt
        obtain ⟨X6, hX6⟩ : ∃ X6 : Nat → Prop, X6 = fun b => (w.heap.size ≤ b ∧ b < w6.heap.size) ∨ X b := ⟨_, rfl⟩
        have hX6lt : ∀ b, X6 b → b < w6.heap.size := fun b h => by
          rw [hX6] at h
          exact h.elim (fun h => h.2) (fun h => by have := hxlt b h; omega)
        have hX6i : X6 w5.heap.size := by rw [hX6]; exact .inl ⟨by omega, hsz6⟩
        have hbli : bl ≠ w5.heap.size := by omega
        have hq6 : RdOK w6 X6 75 w5.heap.size ⟨sp, false⟩ :=
          ⟨_, hrd6r, (hs5.keep hk56).mono (fun b _ h => by rw [hX6] at h; exact h.elim (fun h => .inl h.1) .inr)⟩
        have hcu : w6.cell? ⟨bl, A.length + 4, none⟩ = some u := by rw [cell_of_row w6 bl (A.length + 4) _ bt (0, 0) hrow6]; exact get_mid hR2.lst
        obtain ⟨nn, xs, hnn, hown6, _⟩ := hlst6
        obtain ⟨Au, cu, rfl, hcut, hblk⟩ := own_cut hown6
        refine wk_nil ?_
        refine wk_seq ?_
        refine wk_reg (id := 113) ?_
        refine wk_move rfl rfl ?_
        refine wk_nilCheck rfl rfl ?_
        refine wk_field (f := 4) (i := Tryd.t39) rfl Tryd.underlying44 rfl (by kernel_rfl) (by decide) rfl ?_
        refine wk_load (v := .slice Au nn cu) rfl Tryd.underlying39 rfl hcu rfl ?_
        refine wk_assign rfl rfl ?_
        refine wk_nil ?_
        refine wk_seq ?_
        refine wk_reg (id := 114) ?_
        refine wk_move rfl rfl ?_
        refine wk_assign rfl rfl ?_
        refine wk_nil ?_
        refine wk_seq ?_
        refine wk_reg (id := 115) ?_
        refine wk_assign rfl rfl ?_
        refine wk_nil ?_
        refine wk_seq ?_
        refine wk_seq ?_
        refine wk_reg (id := 116) ?_
        refine wk_move rfl rfl ?_
        refine wk_nil ?_
        refine wk_condT rfl ?_
        refine wk_reg (id := 117) ?_
        refine wk_call Tryd.call33 (vs := [.pointer (some ⟨w5.heap.size, 0, none⟩)]) rfl rfl ((rd_CompactArrayLen w6 X6 w5.heap.size ⟨sp, false⟩ hq6 hX6i hX6lt).mono ?_)
        rintro e w7 ⟨rfl, hq7, hg7⟩
        refine ⟨_, rfl, ?_⟩
        have hf : fTagT body [c] ⟨sp, false⟩ = (if (rlen true ⟨sp, false⟩).2.bad then none else match loopR (fNE body) zcNE (rlen true ⟨sp, false⟩).1.toNat (rlen true ⟨sp, false⟩).2 with
          | none => none
          | some (es, t) => some ([.arr (isNil 0 (rlen true ⟨sp, false⟩).1) (rlen true ⟨sp, false⟩).1.toNat es], t)) := rfl
        rw [hf] at hout
        clear hf
        have hlr := rlen_range true ⟨sp, false⟩
        generalize rlen true ⟨sp, false⟩ = p7 at *
        obtain ⟨l7, s7⟩ := p7
        simp only at hout hq7 hlr
        have ht67 : Turn w6 w7 w5.heap.size bl := Turn.of_grown hg7
        have ht7 : Turn w w7 rb bl := ht6.inner ht67 (by omega)
        have hrow7 := (hg7.block bl (lt_of_some hrow6) (by intro e; cases e; exact hbli rfl)).trans hrow6
        refine wk_assign rfl rfl ?_
        refine wk_nil ?_
        refine wk_seq ?_
        refine wk_seq ?_
        refine wk_reg (id := 119) ?_
        refine wk_call Tryd.call35 (vs := [.pointer (some ⟨w5.heap.size, 0, none⟩)]) rfl rfl ((rd_Ok w7 X6 w5.heap.size s7 hq7).mono ?_)
        rintro e w7' ⟨rfl, rfl⟩
        refine ⟨_, rfl, ?_⟩
        refine wk_not rfl rfl ?_
        refine wk_nil ?_
        cases hbad7 : s7.bad with
        | true =>
          rw [if_pos hbad7] at hout
          refine wk_condT rfl ?_
          refine wk_seq ?_
          refine wk_reg (id := 120) ?_
          refine wk_call Tryd.call36 (vs := [.pointer (some ⟨w5.heap.size, 0, none⟩)]) rfl rfl ((rd_Complete 1 E rfl w7' _ w5.heap.size s7 hq7 (herr w7' ht7)).mono ?_)
          rintro e w8 ⟨rfl, rfl⟩
          refine ⟨_, rfl, ?_⟩
          refine wk_assign rfl rfl ?_
          refine wk_nil ?_
          refine wk_raw (fun a' ha' => ?_)
          refine wpT_ret ?_
          refine q2 a' w8 hout.symm ⟨ha'.2.1.trans hd.symm, ht7⟩ ?_
          rw [ha'.2.2 6 _ rfl, hbad7]
          rfl
        | false =>
          rw [if_neg (by rw [hbad7]; simp)] at hout
          refine wk_condF rfl ?_
          refine wk_skip ?_
          refine wk_seq ?_
          refine wk_reg (id := 121) ?_
          refine wk_move rfl rfl ?_
          refine wk_sliceH (m := 0) rfl rfl Tryd.underlying39 neInfo (Nat.zero_le _) rfl ?_
          have hcut7 : w7'.ownsRow w.heap.size TNE 4 (.slice Au 0 cu) 0 [] := own_heap hcut (fun g hg => by
            have h4 := hcut.lt g hg
            refine hg7.block g h4.2 (fun e => ?_)
            cases e
            rcases hcut.2 with ⟨h5, _⟩ | ⟨g', cap, cur, h5, _, h6, _⟩
            · rw [h5] at hg; cases hg
            · rw [h5] at hg
              simp only [Value.ownBlock, Option.some.injEq] at hg
              subst hg
              rw [hrd6r] at h6
              simp only [Option.some.injEq, Obj.cells.injEq] at h6
              exact absurd h6.2.1 (by decide))
          have hn7 : ((l7.toNat : Nat) : Int) < 2147483648 := by omega
          obtain ⟨g1, z1, z2⟩ : ∃ z, Tryd.t72.zero = some z ∧ z.cells = zsNE.toArray := neZero
          -- the list is made
          have hcs7 : ∃ b, cmp .gtr l7 0 = some b ∧ b = decide (l7 > 0) := ⟨_, rfl, rfl⟩
          obtain ⟨bpos, hcp, hbp⟩ := hcs7
          refine wk_assign rfl rfl ?_
          refine wk_nil ?_
          refine wk_seq ?_
          refine wk_seq ?_
          refine wk_reg (id := 122) ?_
          refine wk_move rfl rfl ?_
          refine wk_cmp rfl rfl (by with_reducible assumption) rfl ?_
          refine wk_nil ?_
          refine wk_join (ι := Value) (fun u1 => [(7, .pointer (some ⟨rb, 0, none⟩)), (10, .pointer (some ⟨bl, A.length, none⟩)), (9, .bool true), (8, .int .i16 ver), (2, .bool false), (43, .int .u32 ((q + 1 : Nat) : Int)), (45, .pointer (some ⟨w5.heap.size, 0, none⟩)), (47, u1), (48, .int .i32 l7)] ++ τ)
            (fun u1 w' => w'.ownsRow w.heap.size TNE 4 u1 l7.toNat (zl zsNE l7.toNat) ∧ w7'.grownBy w' (Value.ownBlock (.slice Au 0 cu)) ∧ (u1.ownBlock = Value.ownBlock (.slice Au 0 cu) ∨ ∃ g, u1.ownBlock = some g ∧ w7'.heap.size ≤ g)) (b := bpos) rfl ?_ ?_ ?_
          · intro hb
            have hpos : 0 < l7 := by rw [hb] at hbp; simpa using hbp.symm
            have hN : ((l7.toNat : Nat) : Int) = l7 := by omega
            refine wk_reg (id := 123) ?_
            refine wk_move rfl rfl ?_
            refine wk_move rfl rfl ?_
            refine wk_appendZ (n := l7.toNat) (base := w.heap.size) (zs := zsNE) (v := .slice Au 0 cu) rfl (by rw [hN]; rfl) Tryd.underlying39 Tryd.underlying21 neInfo z1 z2 rfl (by omega) (by decide) hn7 (by decide) neOne hcut7 (by have := ht7.size; omega) rfl ?_
            intro u1 wL ho1 hgL hgb
            refine wk_assign rfl rfl ?_
            refine wk_nil ?_
            exact wk_joinEndW u1 (pre_sub hτ0 rfl (by repeat (first | exact Fr.base | refine Fr.step rfl ?_))) ⟨ho1, hgL, hgb⟩
          · intro hb
            have hneg : l7.toNat = 0 := by
              rw [hb] at hbp
              have : ¬ (l7 > 0) := by simpa using hbp.symm
              omega
            refine wk_skip ?_
            refine wk_joinEndW (.slice Au 0 cu) (pre_sub hτ0 rfl (by repeat (first | exact Fr.base | refine Fr.step rfl ?_))) ⟨?_, ⟨rfl, rfl, rfl, Nat.le_refl _, fun _ _ _ => rfl⟩, .inl rfl⟩
            rw [hneg]
            exact hcut7
          · rintro u1 wL ⟨ho1, hgL, hgb⟩
            obtain ⟨N, hN⟩ : ∃ N, l7.toNat = N := ⟨_, rfl⟩
            rw [hN] at ho1 hout hn7
            have hsz7 : w6.heap.size ≤ w7'.heap.size := hg7.size
            have hszL : w7'.heap.size ≤ wL.heap.size := hgL.size
            have hsz6w : w.heap.size ≤ w6.heap.size := ht6.size
            have hold : ∀ g, Value.ownBlock (.slice Au 0 cu) = some g → w.heap.size ≤ g ∧ g < w6.heap.size ∧ g ≠ w5.heap.size := fun g hg => by
              have h4 := hcut.lt g hg
              refine ⟨h4.1, h4.2, fun e => ?_⟩
              subst e
              rcases hcut.2 with ⟨h5, _⟩ | ⟨g', cap, cur, h5, _, h6, _⟩
              · rw [h5] at hg; cases hg
              · rw [h5] at hg
                simp only [Value.ownBlock, Option.some.injEq] at hg
                subst hg
                rw [hrd6r] at h6
                simp only [Option.some.injEq, Obj.cells.injEq] at h6
                exact absurd h6.2.1 (by decide)
            have hnew : ∀ g, u1.ownBlock = some g → w.heap.size ≤ g ∧ g < wL.heap.size ∧ g ≠ w5.heap.size ∧ (g < w6.heap.size → Value.ownBlock (.slice Au 0 cu) = some g) ∧ (w6.heap.size ≤ g → w7'.heap.size ≤ g) := fun g hg => by
              have h4 := ho1.lt g hg
              rcases hgb with h5 | ⟨g', h5, h6⟩
              · rw [h5] at hg
                have h7 := hold g hg
                exact ⟨h7.1, h4.2, h7.2.2, fun _ => hg, fun h8 => by omega⟩
              · rw [h5] at hg
                cases hg
                exact ⟨h4.1, h4.2, by omega, fun h8 => by omega, fun _ => h6⟩
            obtain ⟨XI, hXI⟩ : ∃ XI : Nat → Prop, XI = fun b => X6 b ∨ (w7'.heap.size ≤ b ∧ b < wL.heap.size) := ⟨_, rfl⟩
            have hXIlt : ∀ b, XI b → b < wL.heap.size := fun b h => by
              rw [hXI] at h
              exact h.elim (fun h => by have := hX6lt b h; omega) (fun h => h.2)
            have hXIi : XI w5.heap.size := by rw [hXI]; exact .inl hX6i
            have hXIb : XI bl := by rw [hXI]; refine .inl ?_; rw [hX6]; exact .inr hXb
            have hXIg : ∀ g, u1.ownBlock = some g → XI g := fun g hg => by
              obtain ⟨h1, h2, h3, h4, h5⟩ := hnew g hg
              rw [hXI]
              by_cases h6 : g < w6.heap.size
              · refine .inl ?_
                rw [hX6]
                exact .inl ⟨h1, h6⟩
              · exact .inr ⟨h5 (by omega), h2⟩
            have hqL : RdOK wL XI 75 w5.heap.size s7 := by
              obtain ⟨v, h1, h2⟩ := hq7
              have h3 : SrcRep w7' XI v s7.src := h2.mono (fun b hb h => by rw [hXI] at h; exact h.resolve_right (by omega))
              refine ⟨v, (hgL.block _ (lt_of_some h1) (fun e => (hold _ e.symm).2.2 rfl)).trans h1, h3.keep ⟨hszL, fun b hb hnx => hgL.block b hb (fun e => hnx ?_)⟩⟩
              rw [hXI, hX6]
              have := hold b e.symm
              exact .inl (.inl ⟨this.1, this.2.1⟩)
            have htL : Turn w wL rb bl := ⟨hgL.os.trans ht7.os, hgL.tape.trans ht7.tape, hgL.output.trans ht7.output, by have := ht7.size; omega, fun b hb h1 h2 => (hgL.block b (by have := ht7.size; omega) (fun e => by have := (hold b e.symm).1; omega)).trans (ht7.block b hb h1 h2)⟩
            have hrowL : wL.heap[bl]? = some (.cells (A ++ (vr ++ C)).toArray bt (0, 0)) := (hgL.block bl (lt_of_some hrow7) (fun e => by have := (hold bl e.symm).1; omega)).trans hrow7
            show wk Tryd.prog _ 351 ((7, .pointer (some ⟨rb, 0, none⟩)) :: (10, .pointer (some ⟨bl, A.length, none⟩)) :: (9, .bool true) :: (8, .int .i16 ver) :: (2, .bool false) :: (43, .int .u32 ((q + 1 : Nat) : Int)) :: (45, .pointer (some ⟨w5.heap.size, 0, none⟩)) :: (47, u1) :: (48, .int .i32 l7) :: τ) _ wL
            refine wk_seq ?_
            refine wk_seq ?_
            refine wk_reg (id := 124) ?_
            refine wk_assign rfl rfl ?_
            refine wk_nil ?_
            refine wk_loopW (fun i : Nat × (List Value × List CV) × RS => [(7, .pointer (some ⟨rb, 0, none⟩)), (10, .pointer (some ⟨bl, A.length, none⟩)), (9, .bool true), (8, .int .i16 ver), (2, .bool false), (43, .int .u32 ((q + 1 : Nat) : Int)), (45, .pointer (some ⟨w5.heap.size, 0, none⟩)), (47, u1), (48, .int .i32 l7), (49, .int .i32 (i.1 : Int))] ++ τ)
              (iLs wL w5.heap.size w.heap.size XI u1 N body s7) (fun i => N - i.1) (0, ([], []), s7) (pre_sub hτ0 rfl (by repeat (first | exact Fr.base | refine Fr.step rfl ?_))) ?_ ?_
            · refine ⟨Nat.zero_le _, rfl, rfl, rfl, Nat.le_refl _, fun _ _ _ _ => rfl, ho1, rfl, rfl, fun q v c hv _ => by simp at hv, hqL, ?_⟩
              show loopR (fNE body) zcNE N s7 = (match loopR (fNE body) zcNE N s7 with
                | none => none
                | some (es, t) => some ([] ++ es, t))
              cases loopR (fNE body) zcNE N s7 with
              | none => rfl
              | some p => rfl
            · rintro ⟨j, ⟨vs, es⟩, sj⟩ wj ⟨hj, j1, j2, j3, j4, j5, hoj, hvs, hes, hrj, hqj, hlp⟩
              simp only at hj hoj hvs hes hrj hqj hlp
              have htj : Turn w wj rb bl := ⟨j1.trans htL.os, j2.trans htL.tape, j3.trans htL.output, Nat.le_trans htL.size j4, fun b hb h1 h2 => (j5 b (by have := htL.size; omega) (by omega) (fun e => by have := (hnew b e).1; omega)).trans (htL.block b hb h1 h2)⟩
              show wk Tryd.prog _ 351 ((7, .pointer (some ⟨rb, 0, none⟩)) :: (10, .pointer (some ⟨bl, A.length, none⟩)) :: (9, .bool true) :: (8, .int .i16 ver) :: (2, .bool false) :: (43, .int .u32 ((q + 1 : Nat) : Int)) :: (45, .pointer (some ⟨w5.heap.size, 0, none⟩)) :: (47, u1) :: (48, .int .i32 l7) :: (49, .int .i32 (j : Int)) :: τ) _ wj
              by_cases hjn : j < N
              · have hcl7 : cmp .lss (j : Int) l7 = some true := by simp only [cmp, Option.some.injEq, decide_eq_true_eq]; omega
                have hadd : IntKind.i32.wrap ((j : Int) + 1) = ((j + 1 : Nat) : Int) := by rw [i32_small _ (by omega) (by omega)]; omega
                obtain ⟨g, cap, cur, hu1, hbg, hgh, hnc, hcm, hcs, htk⟩ : ∃ g cap cur, u1 = .slice (some ⟨g, 0, none⟩) N cap ∧ w.heap.size ≤ g ∧ wj.heap[g]? = some (.cells cur TNE (0, 0)) ∧ N ≤ cap ∧ cap ≤ maxLen ∧ cur.size = cap * 4 ∧ cur.toList.take (N * 4) = vs ++ zl zsNE (N - j) := by
                  rcases hoj.2 with ⟨_, h5⟩ | h5
                  · omega
                  · exact h5
                subst hu1
                have hng := hnew g rfl
                have hNj : N - j = (N - (j + 1)) + 1 := by omega
                have hsplit : cur = (vs ++ (zsNE ++ (zl zsNE (N - (j + 1)) ++ cur.toList.drop (N * 4)))).toArray := by
                  apply Array.toList_inj.1
                  have h1 := List.take_append_drop (N * 4) cur.toList
                  rw [htk, hNj] at h1
                  refine h1.symm.trans ?_
                  show _ = vs ++ (zsNE ++ (zl zsNE (N - (j + 1)) ++ cur.toList.drop (N * 4)))
                  simp only [zl, List.append_assoc]
                have hix : 0 + j * Tryd.t72.size = vs.length := by
                  rw [hvs]
                  show 0 + j * 4 = j * 4
                  omega
                have hszj : wL.heap.size ≤ wj.heap.size := j4
                have hSj : StR wj XI 75 1 E w5.heap.size g vs (zl zsNE (N - (j + 1)) ++ cur.toList.drop (N * 4)) zsNE TNE zcNE sj :=
                  ⟨hXIg g rfl, hXIi, hng.2.2.1, fun b hb => by have := hXIlt b hb; omega, by rw [← hsplit]; exact hgh, rfl, zsRep wj XI, hqj, fun hx => by
                    rw [hXI, hX6] at hx
                    rcases hx with (hx | hx) | hx
                    · omega
                    · exact hgX hx
                    · have := ht7.size; omega, herr wj htj⟩
                refine wk_seq ?_
                refine wk_seq ?_
                refine wk_reg (id := 125) ?_
                refine wk_move rfl rfl ?_
                refine wk_move rfl rfl ?_
                refine wk_cmp rfl rfl (by with_reducible assumption) rfl ?_
                refine wk_nil ?_
                refine wk_condT rfl ?_
                refine wk_skip ?_
                refine wk_seq ?_
                refine wk_block ?_
                refine wk_seq ?_
                refine wk_reg (id := 127) ?_
                refine wk_move rfl rfl ?_
                refine wk_move rfl rfl ?_
                refine wk_idx (i := Tryd.t72) (b := g) (off := 0) (n := N) (c := cap) (j := j) rfl rfl Tryd.underlying39 (by kernel_rfl) hjn rfl ?_
                rw [hix]
                refine wk_assign rfl rfl ?_
                refine wk_nil ?_
                refine wk_seq ?_
                refine wk_reg (id := 128) ?_
                refine wk_move rfl rfl ?_
                refine wk_call Tryd.call51 (vs := [.pointer (some ⟨g, vs.length, none⟩)]) rfl rfl ((c_NEDef wj _).mono ?_)
                rintro e wj' ⟨rfl, rfl⟩
                refine ⟨_, rfl, ?_⟩
                refine wk_nil ?_
                refine wk_execR (c := codeNE) (W := wrNE) (σ' := [(7, .pointer (some ⟨rb, 0, none⟩)), (10, .pointer (some ⟨bl, A.length, none⟩)), (9, .bool true), (8, .int .i16 ver), (2, .bool false), (43, .int .u32 ((q + 1 : Nat) : Int)), (45, .pointer (some ⟨w5.heap.size, 0, none⟩)), (47, .slice (some ⟨g, 0, none⟩) N cap), (48, .int .i32 l7), (49, .int .i32 (j : Int))] ++ τ) hT hR hx subNE hSj ?_ ?_ ?_ ?_
                · intro t x hm
                  simp only [sgNE, List.mem_cons, Prod.mk.injEq, List.not_mem_nil, or_false] at hm
                  rcases hm with ⟨rfl, rfl⟩ | ⟨rfl, rfl⟩ | ⟨rfl, rfl⟩ | ⟨rfl, rfl⟩ | ⟨rfl, rfl⟩
                  · exact ⟨_, rfl, (g, vs.length), rfl, rfl⟩
                  · exact ⟨_, rfl, rfl⟩
                  · exact ⟨_, rfl, rfl⟩
                  · exact ⟨_, rfl, rfl⟩
                  · exact ⟨_, rfl, rfl⟩
                · intro t v hv
                  refine ⟨pre_sub hτ0 rfl (by repeat (first | exact Fr.base | refine Fr.step rfl ?_)) t v hv, ?_⟩
                  rcases look_append hv with h | h
                  · have hm := look_mem h
                    simp only [List.mem_cons, Prod.mk.injEq, List.not_mem_nil, or_false] at hm
                    rcases hm with ⟨rfl, _⟩ | ⟨rfl, _⟩ | ⟨rfl, _⟩ | ⟨rfl, _⟩ | ⟨rfl, _⟩ | ⟨rfl, _⟩ | ⟨rfl, _⟩ | ⟨rfl, _⟩ | ⟨rfl, _⟩ | ⟨rfl, _⟩ <;> rfl
                  · have h2 := hτ0 t v h
                    cases hh : has wrNE t with
                    | false => rfl
                    | true =>
                      have h3 := allB_mem subNE2 t (has_iff.1 hh)
                      simp only [has, h3, Bool.or_true] at h2
                      cases h2
                · intro w' vals' cs' s' hrun htw hS' hvl'
                  refine wk_blockEnd ?_
                  refine wk_reg (id := 126) ?_
                  refine wk_move rfl rfl ?_
                  refine wk_add rfl rfl rfl ?_
                  refine wk_assign rfl rfl ?_
                  refine wk_nil ?_
                  have hvl4 : vals'.length = 4 := hvl'
                  have hcl4 : cs'.length = 4 := hS'.len.symm.trans hvl4
                  have hkj : Keeps XI wj' w' := htw.keeps hXIi (hXIg g rfl)
                  refine wk_loopNextW (j + 1, (vs ++ vals', es ++ cs'), s') (by show N - (j + 1) < N - j; omega) (pre_sub hτ0 (by rw [← hadd]; rfl) (by repeat (first | exact Fr.base | refine Fr.step rfl ?_))) ⟨by simp only; omega, htw.os.trans j1, htw.tape.trans j2, htw.output.trans j3, Nat.le_trans j4 htw.size, ?_, ?_, ?_, ?_, ?_, hS'.rd, ?_⟩
                  · intro b hb h1 h2
                    exact (htw.block b (by omega) h1 (fun e => h2 (by rw [e]; rfl))).trans (j5 b hb h1 h2)
                  · refine ⟨?_, .inr ⟨g, cap, _, rfl, hbg, hS'.row, hnc, hcm, ?_, ?_⟩⟩
                    · simp only [List.length_append, zl_length, hvs, hvl4]
                      show j * 4 + 4 + (N - (j + 1)) * 4 = N * 4
                      omega
                    · rw [← hcs]
                      conv => rhs; rw [hsplit]
                      simp only [List.size_toArray, List.length_append, hvl4]
                      rfl
                    · show List.take (N * 4) (vs ++ (vals' ++ (zl zsNE (N - (j + 1)) ++ cur.toList.drop (N * 4)))) = _
                      simp only
                      rw [← List.append_assoc vals', ← List.append_assoc vs, ← List.append_assoc vs]
                      refine List.take_left' ?_
                      simp only [List.length_append, zl_length, hvs, hvl4]
                      show j * 4 + 4 + (N - (j + 1)) * 4 = N * 4
                      omega
                  · simp only [List.length_append, hvs, hvl4]
                    omega
                  · simp only [List.length_append, hes, hcl4]
                    omega
                  · intro q v c hv hc
                    simp only at hv hc
                    by_cases hq : q < vs.length
                    · rw [List.getElem?_append_left hq] at hv
                      rw [List.getElem?_append_left (by omega)] at hc
                      exact (hrj q v c hv hc).keep hkj
                    · rw [List.getElem?_append_right (by omega)] at hv hc
                      rw [show q - es.length = q - vs.length by omega] at hc
                      exact hS'.rep _ v c hv hc
                  · rw [hlp, hNj]
                    simp only [loopR]
                    rw [show fNE body zcNE sj = some (cs', s') from by rw [hbody]; exact hrun]
                    simp only
                    cases loopR (fNE body) zcNE (N - (j + 1)) s' with
                    | none => rfl
                    | some p => simp
                · intro hrun w' a' htw hd' hE'
                  have hnone : loopR (fNE body) zcNE N s7 = none := by
                    rw [hlp, hNj]
                    simp only [loopR]
                    rw [show fNE body zcNE sj = none from by rw [hbody]; exact hrun]
                  rw [hnone] at hout
                  refine q2 a' w' hout.symm ⟨hd'.trans hd.symm, ⟨htw.os.trans htj.os, htw.tape.trans htj.tape, htw.output.trans htj.output, Nat.le_trans htj.size htw.size, fun b hb h1 h2 => (htw.block b (by have := htj.size; omega) (by omega) (by omega)).trans (htj.block b hb h1 h2)⟩⟩ hE'
              · have hcl7 : cmp .lss (j : Int) l7 = some false := by simp only [cmp, Option.some.injEq, decide_eq_false_iff_not]; omega
                obtain rfl : j = N := by omega
                have hlf : loopR (fNE body) zcNE j s7 = some (es, sj) := by
                  rw [hlp, Nat.sub_self]
                  simp [loopR]
                rw [hlf] at hout
                simp only at hout
                have hoj' : wj.ownsRow w.heap.size TNE 4 u1 j vs := by
                  have := hoj
                  rw [Nat.sub_self] at this
                  simpa [zl] using this
                have hrowj : wj.heap[bl]? = some (.cells (A ++ (vr ++ C)).toArray bt (0, 0)) := (j5 bl (lt_of_some hrowL) hbli (fun e => by have := (hnew bl e).1; omega)).trans hrowL
                obtain ⟨Au1, cu1, rfl, _, _⟩ := own_cut hoj'
                refine wk_seq ?_
                refine wk_seq ?_
                refine wk_reg (id := 125) ?_
                refine wk_move rfl rfl ?_
                refine wk_move rfl rfl ?_
                refine wk_cmp rfl rfl (by with_reducible assumption) rfl ?_
                refine wk_nil ?_
                refine wk_condF rfl ?_
                refine wk_loopExit ?_
                refine wk_seq ?_
                refine wk_reg (id := 148) ?_
                refine wk_move rfl rfl ?_
                refine wk_assign rfl rfl ?_
                refine wk_nil ?_
                refine wk_seq ?_
                refine wk_reg (id := 149) ?_
                refine wk_move rfl rfl ?_
                refine wk_move rfl rfl ?_
                refine wk_nilCheck rfl rfl ?_
                refine wk_field (f := 4) (i := Tryd.t39) rfl Tryd.underlying44 rfl (by kernel_rfl) (by decide) rfl ?_
                refine wk_store1 (o := A.length + 4) (i := Tryd.t39) rfl rfl hrowj (by kernel_rfl) rfl rfl rfl (by simp; omega) ?_
                rw [spl_mid (by omega)]
                have hrow9 := setRow_heap _ _ _ (A ++ (vr.set 4 (.slice Au1 j cu1) ++ C)).toArray _ _ hrowj
                have ht9 : Turn w (wj.setRow bl (A ++ (vr.set 4 (.slice Au1 j cu1) ++ C)).toArray) rb bl := htj.trans (Turn.setRow wj rb bl _)
                have hk9 : Keeps XI wj (wj.setRow bl (A ++ (vr.set 4 (.slice Au1 j cu1) ++ C)).toArray) := (Turn.setRow wj w5.heap.size bl _).keeps hXIi hXIb
                have hq9 : RdOK (wj.setRow bl (A ++ (vr.set 4 (.slice Au1 j cu1) ++ C)).toArray) XI 75 w5.heap.size sj := by
                  obtain ⟨v, h1, h2⟩ := hqj
                  exact ⟨v, (setRow_other _ _ _ _ (Ne.symm hbli)).trans h1, h2.keep hk9⟩
                have ho9 : (wj.setRow bl (A ++ (vr.set 4 (.slice Au1 j cu1) ++ C)).toArray).ownsRow w.heap.size TNE 4 (.slice Au1 j cu1) j vs := own_heap hoj' (fun g hg => setRow_other _ _ _ _ (fun e => by have := (hnew g hg).1; omega))
                have hfr : ∀ b, b < w6.heap.size → b ≠ w5.heap.size → b ≠ bl → Value.ownBlock (.slice Au 0 cu) ≠ some b → (wj.setRow bl (A ++ (vr.set 4 (.slice Au1 j cu1) ++ C)).toArray).heap[b]? = w6.heap[b]? := by
                  intro b hb h1 h2 h3
                  rw [setRow_other _ _ _ _ h2, j5 b (by omega) h1 (fun e => h3 ((hnew b e).2.2.2.1 hb)), hgL.block b (by omega) (fun e => h3 e.symm), hg7.block b hb (by intro e; cases e; exact h1 rfl)]
                have hsz9 : w6.heap.size ≤ (wj.setRow bl (A ++ (vr.set 4 (.slice Au1 j cu1) ++ C)).toArray).heap.size := Nat.le_trans (show w6.heap.size ≤ wj.heap.size by omega) (Turn.setRow wj rb bl _).size
                have hr9 : ∀ (q : Nat) (v : Value) (c : CV), vs[q]? = some v → es[q]? = some c → Rep (wj.setRow bl (A ++ (vr.set 4 (.slice Au1 j cu1) ++ C)).toArray) XI v c := fun q v c hv hc => (hrj q v c hv hc).keep hk9
                generalize wj.setRow bl (A ++ (vr.set 4 (.slice Au1 j cu1) ++ C)).toArray = w9 at *
                refine wk_nil ?_
                refine wk_seq ?_
                refine wk_reg (id := 150) ?_
                refine wk_call Tryd.call36 (vs := [.pointer (some ⟨w5.heap.size, 0, none⟩)]) rfl rfl ((rd_Complete 1 E rfl w9 _ w5.heap.size sj hq9 (herr w9 ht9)).mono ?_)
                rintro e w10 ⟨rfl, rfl⟩
                refine ⟨_, rfl, ?_⟩
                refine wk_assign rfl rfl ?_
                refine wk_nil ?_
                refine wk_seq ?_
                refine wk_reg (id := 151) ?_
                refine wk_move rfl rfl ?_
                refine wk_neqnil (E := E) (bad := sj.bad) rfl Tryd.underlying35 hE rfl ?_
                cases hbad : sj.bad with
                | true =>
                  refine wk_nil ?_
                  refine wk_condT rfl ?_
                  refine wk_seq ?_
                  refine wk_reg (id := 152) ?_
                  refine wk_move rfl rfl ?_
                  refine wk_assign rfl rfl ?_
                  refine wk_nil ?_
                  refine wk_raw (fun a' ha' => ?_)
                  refine wpT_ret ?_
                  rw [if_pos hbad] at hout
                  exact q2 a' w10 hout.symm ⟨ha'.2.1.trans hd.symm, ht9⟩ (ha'.2.2 6 _ rfl)
                | false =>
                  rw [if_neg (by rw [hbad]; simp)] at hout
                  refine wk_nil ?_
                  refine wk_condF rfl ?_
                  refine wk_skip ?_
                  refine wk_blockEnd ?_
                  refine wk_blockEnd ?_
                  refine wk_reg (id := 107) ?_
                  refine wk_move rfl rfl ?_
                  refine wk_subV rfl rfl (by with_reducible assumption) rfl ?_
                  refine wk_assign rfl rfl ?_
                  refine wk_nil ?_
                  refine wk_loopNextW (q, (vr.set 4 (.slice Au1 j cu1), .slice Au1 j cu1, .arr (isNil 0 l7) j es), (mv, acc), s5) (Nat.lt_succ_self q) (pre_sub hτ0 rfl (by repeat (first | exact Fr.base | refine Fr.step rfl ?_))) ⟨by simp only; omega, ht9, ?_, hrow9, ?_, ?_, ?_, hso, hout⟩
                  · obtain ⟨v, h1, h2⟩ := hr6
                    refine ⟨v, (hfr rb (lt_of_some h1) (by omega) (Ne.symm hne) (fun e => by have := (hold rb e).1; omega)).trans h1, h2.keep ⟨hsz9, fun b hb hnx => hfr b hb (fun e => hnx (.inl (by omega))) (fun e => hnx (.inr (e ▸ hXb))) (fun e => hnx (.inl (hold b e).1))⟩⟩
                  · refine ⟨by simp [hvl], fun q h4 h5 => ?_, List.getElem?_set_self (by omega), ?_⟩
                    · simp only
                      rw [List.getElem?_set_ne (Ne.symm h4)]
                      exact hR2.out q h4 h5
                    · simp only
                      rw [List.getElem?_set_ne (by omega)]
                      exact hR2.map
                  · show MapAt w10 _ _ mv acc
                    refine MapAt.keep (w := w6) (MapAt.keep (w := w2) hmap2 (ht26.keeps (.inr hXr) (.inr hXb)) ?_) ⟨hsz9, fun b hb hnx => hfr b hb (fun e => hnx (.inl (by omega))) (fun e => hnx (.inr (e ▸ hXb))) (fun e => hnx (.inl (hold b e).1))⟩ ?_
                    · intro r es cl h
                      refine (ht26.block r (lt_of_some h) ?_ ?_).trans h
                      · rintro rfl
                        obtain ⟨v, h1, _⟩ := hr2
                        rw [h] at h1
                        cases h1
                      · rintro rfl
                        rw [h] at hrow2
                        cases hrow2
                    · intro r es cl h
                      refine (hfr r (lt_of_some h) ?_ ?_ ?_).trans h
                      · rintro rfl
                        rw [h] at hrd6r
                        cases hrd6r
                      · rintro rfl
                        rw [h] at hrow6
                        cases hrow6
                      · intro e
                        rcases hcut.2 with ⟨h5, _⟩ | ⟨g', cap, cur, h5, _, h6, _⟩
                        · rw [h5] at e; cases e
                        · rw [h5] at e
                          simp only [Value.ownBlock, Option.some.injEq] at e
                          subst e
                          rw [h] at h6
                          cases h6
                  · refine ⟨j, vs, by omega, ho9, .inr ⟨es, ?_, by rw [hes, hvs], fun q v c hv hc => (hr9 q v c hv hc).mono (fun b _ hx => ?_)⟩⟩
                    · have : isNil 0 l7 = decide (j = 0) := by
                        simp only [isNil, decide_eq_decide]
                        omega
                      rw [this]
                    · rcases hx with (hx | hx) | hx
                      · rw [hXI, hX6]
                        exact .inl (.inr hx)
                      · exact hXIg b hx
                      · obtain ⟨h1, h2, _⟩ := hgem b hx
                        rw [hXI, hX6]
                        exact .inl (.inl ⟨h1, by have := ht26.size; omega⟩)
      · have c2' : cmp .eql ((rUv s2).1 : Int) 0 = some false := by simp [cmp]; omega
        refine wk_seq ?_
        refine wk_reg (id := 111) ?_
        refine wk_cmp rfl rfl (by with_reducible assumption) rfl ?_
        refine wk_assign rfl rfl ?_
        refine wk_nil ?_
        refine wk_condF rfl ?_
        have hstep : kloop (fTagT body) (q + 1) [c] acc s2 = kloop (fTagT body) q [c] (tagSet (rUv s2).1 (orNil (rSpan ((rUv (rUv s2).2).1 : Int) (rUv (rUv s2).2).2).1) acc) (rSpan ((rUv (rUv s2).2).1 : Int) (rUv (rUv s2).2).2).2 := by
          simp only [kloop]
          rw [if_neg hk0]
        rw [hstep] at hout
        clear hstep
        refine wk_draw (fun _ => True) [(0, true), (1, true), (2, true), (3, true), (4, false), (5, true), (6, false), (7, false)] mixedR (pqb (pqb (pql pqh))) (by kernel_rfl) (by kernel_rfl) (by kernel_rfl) (fun _ _ _ => trivial) ?_
        intro w3' h3' hb3'
        have hr3' := hr3.fresh hb3'
        have ht3' : Turn w w3' rb bl := ht3.trans (Turn.of_below hb3')
        have hrow3' := (hb3'.block bl (lt_of_some hrow3)).trans hrow3
        refine wd_move rfl rfl rfl ?_
        refine wd_nilCheck rfl rfl rfl ?_
        refine wd_field (f := 5) (ti := Tryd.t42) rfl rfl Tryd.underlying44 rfl (by kernel_rfl) (by decide) rfl ?_
        refine wd_move rfl rfl rfl ?_
        refine wd_call rfl Tryd.call48 (vs := [.pointer (some ⟨rb, 0, none⟩)]) rfl rfl ((rd_Uvarint w3' _ rb _ hr3' (.inr hXr)).mono ?_)
        rintro e w4 ⟨rfl, hr4, hg4⟩
        refine ⟨_, rfl, trivial, ?_⟩
        refine wd_convV rfl rfl Tryd.underlying64 Tryd.underlying3 hwz rfl ?_
        refine wd_call rfl Tryd.call50 (vs := [.pointer (some ⟨rb, 0, none⟩), .int .i64 ((rUv (rUv s2).2).1 : Int)]) rfl rfl ((rd_Span w4 _ rb _ ((rUv (rUv s2).2).1 : Int) hr4 (.inr hXr)).mono ?_)
        rintro e w5 ⟨v5, rfl, hs5, hr5, hg5⟩
        refine ⟨_, rfl, trivial, ?_⟩
        have hg35 := grown_trans1 hg4 hg5
        have ht5 : Turn w w5 rb bl := ht3'.trans (Turn.of_grown hg35)
        have ht25 : Turn w2 w5 rb bl := ((Turn.of_grown hg3).trans (Turn.of_below hb3')).trans (Turn.of_grown hg35)
        have hrow5 := (hg35.block bl (lt_of_some hrow3') (by intro e; cases e; exact hne rfl)).trans hrow3'
        have hsz5 := ht5.size
        have hmap5 : MapAt w5 w.heap.size (fun b => w.heap.size ≤ b ∨ X b) mv acc := MapAt.keep (w := w2) hmap2 (ht25.keeps (.inr hXr) (.inr hXb)) (by
          intro r es cl h
          refine (ht25.block r (lt_of_some h) ?_ ?_).trans h
          · intro e
            subst e
            obtain ⟨v, h1, _⟩ := hr2
            rw [h] at h1
            cases h1
          · intro e
            subst e
            rw [h] at hrow2
            cases hrow2)
        have hlst5 := hlst2.turn ht25 hXr hXb hxlt
        generalize rSpan ((rUv (rUv s2).2).1 : Int) (rUv (rUv s2).2).2 = p5 at *
        obtain ⟨sp, s5⟩ := p5
        simp only at hs5 hr5 hout
        have hvl5 : 5 < vr.length := by omega
        refine wd_call rfl Tryd.call49 (vs := [.pointer (some ⟨bl, A.length + 5, none⟩), .int .u32 ((rUv s2).1 : Int), v5]) rfl rfl
          ((c_TagsSetAt w5 w.heap.size bl (A.length + 5) (rUv s2).1 (fun b => w.heap.size ≤ b ∨ X b) (fun b h => .inl h) (.inr hXb) mv v5 acc (orNil sp) _ bt hrow5 (get_mid hR2.map) hsz5 hmap5 hso (by
            cases sp with
            | none => exact .inl ⟨⟨none, hs5⟩, rfl⟩
            | some b => exact .inr hs5)).mono ?_)
        rintro e w6 ⟨rfl, mv', hrow6, hmap6, hts⟩
        refine ⟨_, rfl, trivial, ?_⟩
        rw [spl_mid hvl5] at hrow6
        have hmge := mapAt_ge hmap5
        have ht6 : Turn w w6 rb bl := ⟨hts.os.trans ht5.os, hts.tape.trans ht5.tape, hts.output.trans ht5.output, Nat.le_trans hsz5 hts.size, fun b hb h1 h2 => (hts.block b (by omega) h2 (fun e => by have := (hmge b e).1; omega)).trans (ht5.block b hb h1 h2)⟩
        have hr6 : RdOK w6 (fun b => w.heap.size ≤ b ∨ X b) 75 rb s5 := by
          obtain ⟨v, h1, h2⟩ := hr5
          refine ⟨v, (hts.block rb (lt_of_some h1) (Ne.symm hne) (fun e => by have := (hmge rb e).1; omega)).trans h1, h2.keep ⟨hts.size, fun b hb hnx => hts.block b hb (fun e => hnx (.inr (e ▸ hXb))) (fun e => hnx (.inl (hmge b e).1))⟩⟩
        refine wd_done ?_
        refine wk_blockEnd ?_
        refine wk_blockEnd ?_
        refine wk_reg (id := 107) ?_
        refine wk_move rfl rfl ?_
        refine wk_subV rfl rfl (by with_reducible assumption) rfl ?_
        refine wk_assign rfl rfl ?_
        refine wk_nil ?_
        refine wk_loopNextW (q, (vr.set 5 mv', u, c), (mv', tagSet (rUv s2).1 (orNil sp) acc), s5) (Nat.lt_succ_self q) (pre_sub hτ0 rfl (by repeat (first | exact Fr.base | refine Fr.step rfl ?_))) ⟨by simp only; omega, ht6, hr6, hrow6, ?_, hmap6, hlst5.ts hts hXb hxlt hmap5, tagSet_sorted hso, hout⟩
        refine ⟨by simp [hvl], fun q h4 h5 => ?_, ?_, List.getElem?_set_self hvl5⟩
        · simp only
          rw [List.getElem?_set_ne (Ne.symm h5)]
          exact hR2.out q h4 h5
        · simp only
          rw [List.getElem?_set_ne (by omega)]
          exact hR2.lst
end Go.Proofs.YtbcfmhgcpijfnaaDoor
