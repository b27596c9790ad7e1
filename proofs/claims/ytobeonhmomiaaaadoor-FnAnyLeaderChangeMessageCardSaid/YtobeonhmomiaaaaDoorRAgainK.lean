/-
  A message that says its version itself: read by the executor from behind its first number on, and written.
-/
import Derived.Test.YtobeonhmomiaaaaDoorRAgain
import Derived.Test.YtobeonhmomiaaaaDoorRKept
set_option linter.unusedVariables false
set_option linter.unusedSimpArgs false
namespace Go.Proofs.Eng
open Go Go.RowKit
attribute [local semireducible] wk wkD

/-- What stands behind the first so many parts. -/
def dropC : Nat → Code → Code
  | 0, c => c
  | n + 1, .seq _ q => dropC n q
  | _ + 1, c => c
theorem wk_byT {P : Program} {Q : Exit → Act → World → Prop} {nT : Nat} {σ : Sv} {k : List TD} {w : World} (h : ∀ a, Knows nT σ a → wpT P Q k a w) : wk P Q nT σ k w := h
section
variable {P : Program} {T : Tab} {R : TabR} {tR g n rW : Nat} {E : Value} {fR fW : Func} {ks : List K} {dv : List Value} {S : Sch} {cs : List CV}
theorem tailK (hT : TabOK P T) (hR : TabROK P R tR g E) {nTr rr rd vs : Nat} {lo hi x : Int} {todo : List TD} {rs : Res}
    (hrun : execR T R nTr rr n true 0 dv 1 [(rd, .rdr), (0, .ptr 0 0), (2, .cst (.bool false)), (vs, .iv lo hi)] .none todo = some rs) (hlo : lo ≤ x) (hhi : x ≤ hi)
    {w2 : World} {b0 rb : Nat} {vals : List Value} {bt : TypeId} {s : RS} (hS : StR w2 (fun b => b = b0 ∨ b = rb) tR g E rb b0 [] [] vals bt cs s) (hlen : dv.length = vals.length) (hdv : ∀ k, 1 ≤ k → vals[k]? = dv[k]?)
    {σ : Sv} {a : Act} (ha : Knows nTr σ a) (h0 : evs σ (.tmp 0) = some (.pointer (some ⟨b0, 0, none⟩))) (h2 : evs σ (.tmp 2) = some (.bool false)) (hrd : evs σ (.tmp rd) = some (.pointer (some ⟨rb, 0, none⟩))) (hvs : evs σ (.tmp vs) = some (.int .i16 x))
    {fn : Func} {R0 : Ending → World → Prop} (hres : fn.results = #[.tmp rr])
    (hpost : ∀ (w' : World) (bad : Bool), Turn w2 w' rb b0 →
      (bad = false → ∃ (out : List CV) (s' : RS) (vals' : List Value), runR rs.k cs s = some (out, s') ∧ s'.bad = false ∧ w'.heap[b0]? = some (.cells vals'.toArray bt (0, 0)) ∧ vals'.length = out.length ∧ vals'.length = vals.length ∧
        ∀ (k : Nat) (v : Value) (c : CV), vals'[k]? = some v → out[k]? = some c → Rep w' (fun b => b = b0) v c) →
      (bad = true → ∀ out s', runR rs.k cs s = some (out, s') → s'.bad = true) → R0 (.returned (errV E bad)) w') : wpT P (bodyPost P fn R0) todo a w2 := by
  refine execR_ok hT hR n true 0 dv 1 _ .none todo rs hrun _ (fun b => b = b0 ∨ b = rb) [(b0, 0)] b0 [] [] vals bt cs s ⟨rb, .nilIface, .slice none 0 0, 0, s.bad, E, 0⟩ [] w2 a rfl rfl hS rfl rfl hlen hdv ?_ ha.1 (.inl rfl) trivial ?_ ?_
  · intro t y hy
    simp only [List.mem_cons, Prod.mk.injEq, List.not_mem_nil, or_false] at hy
    rcases hy with ⟨rfl, rfl⟩ | ⟨rfl, rfl⟩ | ⟨rfl, rfl⟩ | ⟨rfl, rfl⟩
    · exact ha.ev hrd
    · exact ⟨_, rfl, ha.ev h0⟩
    · exact ha.ev h2
    · exact ⟨x, ha.ev hvs, hlo, hhi⟩
  · intro a' w' vals' cs' s' ho hA hS' hvl htop
    have ho' : runR rs.k cs s = some (cs', s') := ho
    refine post_ret (results_tmp hres _ _ _) (hA.defers.trans ha.2.1) ?_
    have := htop rfl
    have e : Ending.returned (a'.eval (.tmp rr)) = Ending.returned (errV E s'.bad) := by rw [this]
    show R0 (Ending.returned (a'.eval (.tmp rr))) w'
    rw [e]
    refine hpost w' s'.bad hA.turn (fun hb => ⟨cs', s', vals', ho', hb, by simpa using hS'.row, hS'.len, hvl, fun k v c hv hc => (hS'.rep k v c hv hc).mono (fun _ _ h => .inl h)⟩) (fun hb out s2 ho2 => ?_)
    rw [ho'] at ho2
    cases ho2
    exact hb
  · intro a' w' ho hA hE
    have ho' : runR rs.k cs s = none := ho
    refine post_ret (results_tmp hres _ _ _) (hA.defers.trans ha.2.1) ?_
    have e : Ending.returned (a'.eval (.tmp rr)) = Ending.returned (errV E true) := by rw [hE]; rfl
    show R0 (Ending.returned (a'.eval (.tmp rr))) w'
    rw [e]
    refine hpost w' true hA.turn (fun hb => by cases hb) (fun _ out s2 ho2 => ?_)
    rw [ho'] at ho2
    cases ho2
theorem strK {w3 : World} {b0 rb : Nat} {bt : TypeId} {s1 : RS} (h3 : w3.heap[b0]? = some (.cells dv.toArray bt (0, 0))) (hRd : RdOK w3 (fun b => b = b0 ∨ b = rb) tR rb s1) (hne : b0 ≠ rb) (hlt : ∀ b, (b = b0 ∨ b = rb) → b < w3.heap.size) (hcs : cvs0 ks dv = some cs) (hd : 1 ≤ dv.length)
    (hg : w3.cell? ⟨g, 0, none⟩ = some E) (hgX : ¬ (g = b0 ∨ g = rb)) (x : Int) :
    StR (w3.setRow b0 (dv.toArray.setIfInBounds 0 (.int .i16 x))) (fun b => b = b0 ∨ b = rb) tR g E rb b0 [] [] (dv.set 0 (.int .i16 x)) bt (setAt cs 0 [.int .i16 x]) s1 := by
  obtain ⟨c1, c2, c3⟩ := cvs0_ok hcs
  have hcl : cs.length = dv.length := c2.1.trans c1.symm
  have e : dv.toArray.setIfInBounds 0 (.int .i16 x) = (dv.set 0 (.int .i16 x)).toArray := by simp
  have hk : Keeps (fun b => b = b0 ∨ b = rb) w3 (w3.setRow b0 (dv.toArray.setIfInBounds 0 (.int .i16 x))) :=
    ⟨by simp [World.setRow], fun k _ hk => setRow_other w3 b0 k _ (fun e => hk (.inl e))⟩
  have hsz : (w3.setRow b0 (dv.toArray.setIfInBounds 0 (.int .i16 x))).heap.size = w3.heap.size := by simp [World.setRow]
  refine ⟨.inl rfl, .inr rfl, hne, fun b hb => by rw [hsz]; exact hlt b hb, ?_, ?_, ?_, ?_, hgX, ?_⟩
  · have := setRow_heap w3 b0 _ (dv.toArray.setIfInBounds 0 (.int .i16 x)) bt (0, 0) h3
    rw [this, e]
    simp
  · rw [setAt_length (by simp; omega), List.length_set, hcl]
  · intro k v c hv hc
    cases k with
    | zero =>
      have h1 : (setAt cs 0 [CV.int .i16 x])[0]? = some (.int .i16 x) := by simp [setAt]
      have h2 : (dv.set 0 (Value.int .i16 x))[0]? = some (.int .i16 x) := by rw [List.getElem?_set_self (by omega)]
      rw [h1] at hc
      rw [h2] at hv
      cases hc
      cases hv
      exact .int _ _
    | succ k =>
      have h1 : (setAt cs 0 [CV.int .i16 x])[k + 1]? = cs[k + 1]? := by
        simp only [setAt, List.take_zero, List.nil_append, List.singleton_append, List.getElem?_cons_succ, List.getElem?_drop, List.length_singleton]
        rw [show 0 + 1 + k = k + 1 by omega]
      rw [List.getElem?_set_ne (by omega)] at hv
      rw [h1] at hc
      exact (c3 w3 _ (k + 1) v c hv hc).keep hk
  · obtain ⟨v, h4, h5⟩ := hRd
    exact ⟨v, (setRow_other w3 b0 rb _ (Ne.symm hne)).trans h4, h5.keep hk⟩
  · exact (World.cell?_of_block (a := ⟨g, 0, none⟩) (setRow_other w3 b0 g _ (fun e => hgX (.inl e)))).trans hg
theorem verOf_le (l : List UInt8) : -32768 ≤ verOf l ∧ verOf l ≤ 32767 := by
  show -32768 ≤ IntKind.i16.wrap _ ∧ IntKind.i16.wrap _ ≤ 32767
  generalize ((rNat 2 ⟨srcO l, false⟩).1 : Int) = n
  simp [IntKind.wrap, IntKind.bits, IntKind.signed]
  split <;> omega
theorem grownK {w w1 w2 w3 w' : World} {b0 : Nat} {c : Array Value} (hg1 : w.grownBy w1 (some b0)) (hb2 : Below w1.heap.size w1 w2) (hg3 : w2.grownBy w3 (some w1.heap.size)) (hT : Turn (w3.setRow b0 c) w' w1.heap.size b0) : w.grownBy w' (some b0) := by
  have hsz : (w3.setRow b0 c).heap.size = w3.heap.size := by simp [World.setRow]
  have h1 := hg1.size
  have h2 := hb2.size
  have h3 := hg3.size
  have h4 := hT.size
  refine ⟨hT.os.trans (hg3.os.trans (hb2.os.trans hg1.os)), hT.tape.trans (hg3.tape.trans (hb2.tape.trans hg1.tape)), hT.output.trans (hg3.output.trans (hb2.output.trans hg1.output)), by omega, fun k hk hne => ?_⟩
  have hkb : k ≠ b0 := fun e => hne (by rw [e])
  rw [hT.block k (by omega) (by omega) hkb, setRow_other w3 b0 k c hkb, hg3.block k (by omega) (fun e => by cases e; omega), hb2.block k (by omega), hg1.block k hk hne]
/-- The schema behind the first number, where it lies between two bounds. -/
def verK (T : Tab) (R : TabR) (nTr rr n : Nat) (todo : List TD) (rd vs : Nat) (fW : Func) (rW : Nat) (ks : List K) (dv : List Value) (lo hi : Int) : Option Sch :=
  match execR T R nTr rr n true 0 dv 1 [(rd, .rdr), (0, .ptr 0 0), (2, .cst (.bool false)), (vs, .iv lo hi)] .none todo, fW.body with
  | some r, some c => match execW T [some (.tuple #[.int .i16 lo, .int .i16 hi])] fW.ntmps n (some rW) [ks] [(0, .ptr 0 0), (1, .dst)] [.code c] with
    | some (.prim p o wp) => match mkS n wp r.k with
      | some S => if decide (p = .i16) && Nat.beq o 0 && SOk S 1 ks.length && SK S ks && rpEq r.k (rOf S) && wpEq wp (wOf S) && Nat.beq dv.length ks.length then some S else none
      | none => none
    | _ => none
  | _, _ => none
structure VerKOK (T : Tab) (R : TabR) (nTr rr n : Nat) (todo : List TD) (rd vs : Nat) (fW : Func) (rW : Nat) (ks : List K) (dv : List Value) (lo hi : Int) (S : Sch) : Prop where
  rd : ∃ r, execR T R nTr rr n true 0 dv 1 [(rd, .rdr), (0, .ptr 0 0), (2, .cst (.bool false)), (vs, .iv lo hi)] .none todo = some r ∧ r.k = rOf S
  body : ∃ c, fW.body = some c ∧ execW T [some (.tuple #[.int .i16 lo, .int .i16 hi])] fW.ntmps n (some rW) [ks] [(0, .ptr 0 0), (1, .dst)] [.code c] = some (.prim .i16 0 (wOf S))
  ok : SOk S 1 ks.length = true
  kinds : SK S ks = true
  len : dv.length = ks.length
theorem verK_ok {nTr rr : Nat} {todo : List TD} {rd vs : Nat} {lo hi : Int} (h : verK T R nTr rr n todo rd vs fW rW ks dv lo hi = some S) : VerKOK T R nTr rr n todo rd vs fW rW ks dv lo hi S := by
  unfold verK at h
  split at h
  · rename_i r c h1 h2
    split at h
    · rename_i p o wp h3
      split at h
      · rename_i S' h4
        split at h
        · rename_i hc
          cases h
          simp only [Bool.and_eq_true, Nat.beq_eq, decide_eq_true_eq] at hc
          obtain ⟨⟨⟨⟨⟨⟨rfl, rfl⟩, c1⟩, c2⟩, c3⟩, c4⟩, c5⟩ := hc
          exact ⟨⟨r, h1, rpEq_ok c3⟩, ⟨c, h2, by rw [h3, wpEq_ok c4]⟩, c1, c2, c5⟩
        · cases h
      · cases h
    · cases h
  · cases h
theorem soK {S : Sch} {len : Nat} (h : SOk S 1 len = true) (hl : 1 ≤ len) : SOk (.prim .i16 0 S) 0 len = true := by
  simp only [SOk, Bool.and_eq_true, Nat.ble_eq]
  exact ⟨⟨Nat.le_refl _, hl⟩, h⟩
/-- What is known of a message that was read, out of what its run did. -/
theorem readK_post {cls : Int → Sch} {x : Int} {l : List UInt8} {w' : World} {b0 : Nat} {bt : TypeId} {vals' : List Value} {out : List CV} {s' : RS} (hx : verOf l = x) (hS : ∀ x, SOk (.prim .i16 0 (cls x)) 0 cs.length = true) (hK : SK (cls x) ks = true) (hO : SOk (cls x) 1 ks.length = true) (hks : ks[0]? = some (.int .i16)) (hcl : cs.length = ks.length) (hcf : ConfL ks cs) (hl : l.length < 2000000000)
    (h1 : runR (rOf (cls x)) (setAt cs 0 [.int .i16 x]) (rI .i16 2 ⟨srcO l, false⟩).2 = some (out, s')) (hb : s'.bad = false) (h2 : w'.heap[b0]? = some (.cells vals'.toArray bt (0, 0))) (h3 : vals'.length = out.length) (h4 : vals'.length = ks.length)
    (h5 : ∀ (k : Nat) (v : Value) (c : CV), vals'[k]? = some v → out[k]? = some c → Rep w' (fun b => b = b0) v c) :
    againK cls cs l = some (runW (wOf (.prim .i16 0 (cls x))) out) ∧ (runW (wOf (.prim .i16 0 (cls x))) out).length ≤ 32 * l.length ∧ MsgAt w' b0 bt ks out vals' ∧ vals'[0]? = some (.int .i16 x) := by
  subst hx
  have hrun : runR (rOf (.prim .i16 0 (cls (verOf l)))) cs ⟨srcO l, false⟩ = some (out, s') := h1
  have hl' : (RS.mk (srcO l) false).rest.length < 2000000000 := by rw [srcO_rest]; exact hl
  have hwr := written_le (hS (verOf l)) hrun hb hl'
  rw [srcO_rest] at hwr
  obtain ⟨b, h9, _⟩ := wb_of_rd _ 0 cs.length cs _ out s' (hS (verOf l)) hrun hb hl'
  have hKp : SK (.prim .i16 0 (cls (verOf l))) ks = true := by
    simp only [SK, Bool.and_eq_true]
    refine ⟨?_, hK⟩
    have e : (ks.drop 0).take (pw .i16) = [.int .i16] := by
      show (ks.drop 0).take 1 = _
      rw [List.drop_zero, List.take_one, List.head?_eq_getElem?, hks]
      rfl
    rw [e]
    rfl
  have hlen1 : 1 ≤ ks.length := by have := (List.getElem?_eq_some_iff.1 hks).1; omega
  have hO0 : SOk (.prim .i16 0 (cls (verOf l))) 0 ks.length = true := soK hO hlen1
  have hcfo := conf_of_RW (.prim .i16 0 (cls (verOf l))) ks 0 cs b out hKp hO0 hcf h9
  refine ⟨?_, hwr, ⟨h2, h4, hcfo, h5⟩, ?_⟩
  · unfold againK againR
    rw [hrun]
    simp only [hb, Bool.false_eq_true, if_false]
  · have hb1 := runR_bad _ _ _ _ _ h1 hb
    have hlr : ((rI .i16 2 ⟨srcO l, false⟩).2.rest).length < 2000000000 := by
      have := wb_prim .i16 ⟨srcO l, false⟩ hb1
      rw [srcO_rest] at this
      have e : (rprim .i16 ⟨srcO l, false⟩).2 = (rI .i16 2 ⟨srcO l, false⟩).2 := rfl
      rw [e] at this
      omega
    have hS1 := hS (verOf l)
    simp only [SOk, Bool.and_eq_true] at hS1
    obtain ⟨b2, h10, _⟩ := wb_of_rd _ _ _ _ _ out s' hS1.2 h1 hb hlr
    have hsl : (setAt cs 0 [CV.int .i16 (verOf l)]).length = cs.length := setAt_length (by simp; omega)
    have ht := (runW_of _ (0 + pw .i16) cs.length _ b2 out hS1.2 hsl h10).2.1
    have ho : out[0]? = some (.int .i16 (verOf l)) := by
      have h11 : (out.take (0 + pw .i16))[0]? = ((setAt cs 0 [CV.int .i16 (verOf l)]).take (0 + pw .i16))[0]? := by rw [ht]
      rw [List.getElem?_take_of_lt (by decide), List.getElem?_take_of_lt (by decide)] at h11
      rw [h11]
      simp [setAt]
    have hv : vals'[0]? = some (vals'[0]'(by omega)) := List.getElem?_eq_getElem _
    have := (h5 0 _ _ hv ho).int_inv
    rw [hv, this]
theorem readK_bad {cls : Int → Sch} {x : Int} {l : List UInt8} (hx : verOf l = x) (h : ∀ out s', runR (rOf (cls x)) (setAt cs 0 [.int .i16 x]) (rI .i16 2 ⟨srcO l, false⟩).2 = some (out, s') → s'.bad = true) : againK cls cs l = none := by
  subst hx
  unfold againK againR
  split
  · rename_i out s' h1
    rw [h out s' h1]
    rfl
  · rfl
theorem ver_writeK (hT : TabOK P T) (hC : Conts P T) {nTr rr : Nat} {todo : List TD} {rd vs : Nat} {lo hi : Int} (V : VerKOK T R nTr rr n todo rd vs fW rW ks dv lo hi S) {f : Nat} (hf : P.funcs[f]? = some fW) (hrs : fW.results = #[.tmp rW]) (h2 : Nat.ble 2 fW.ntmps = true) {w : World} {b0 : Nat} {bt : TypeId} {out : List CV} {vals : List Value} (hM : MsgAt w b0 bt ks out vals)
    {x : Int} (hx : vals[0]? = some (.int .i16 x)) (hlo : lo ≤ x) (hhi : x ≤ hi) (hsz : (runW (wOf (.prim .i16 0 S)) out).length ≤ lim) :
    Calls P f #[.pointer (some ⟨b0, 0, none⟩), .slice none 0 0] w fun e w' => ∃ d', e = .returned d' ∧ Own w' w.heap.size T.tB d' (runW (wOf (.prim .i16 0 S)) out) ∧ Below w.heap.size w w' := by
  obtain ⟨c, hb, hxw⟩ := V.body
  have hlv : LvOK w w.heap.size ks ⟨b0, 0, 0, vals, out⟩ := ⟨lt_of_some hM.heap, hM.len, hM.conf, fun k v hv => cell_blk (j := 0 + k) hM.heap (by rw [Nat.zero_add]; simpa using hv), fun k v c hv hc => (hM.rep k v c hv hc).mono (fun b hb h => absurd hb (by have : w.heap.size ≤ b := h; omega))⟩
  refine (calls_exec hT hC hf hb hrs h2 hxw hlv (fun o v h => ?_) (bs := []) (World.ownsRow_nil _ _ _ _) (Nat.le_refl _) (by simpa [wOf] using hsz)).mono ?_
  · cases o with
    | zero =>
      simp only [List.getElem?_cons_zero, Option.some.injEq] at h
      subst h
      intro lo' hi' he
      simp only [List.cons.injEq, Value.int.injEq, true_and, and_true] at he
      obtain ⟨rfl, rfl⟩ := he
      exact ⟨x, hx, hlo, hhi⟩
    | succ o => simp at h
  · rintro e w' ⟨d', rfl, ho, hbe⟩
    exact ⟨d', rfl, by simpa [wOf] using ho, hbe⟩
end
end Go.Proofs.Eng
