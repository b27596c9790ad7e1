/-
  A message is read, and what was read is written: the contracts of its two functions, at one version.
-/
import Derived.Test.YtbcfmhgcpijfnaaDoorRConf
set_option linter.unusedVariables false
set_option linter.unusedSimpArgs false
namespace Go.Proofs.Eng
open Go Go.RowKit
attribute [local semireducible] wk wkD

section
variable {P : Program} {Q : Exit → Act → World → Prop} {nT : Nat} {σ : Sv} {k : List TD} {w : World} {all : Array Oper} {l : List Oper} {ty : TypeId} {ps : String} {af : Array Edge} {d : Nat} {x y z : Operand} {t t' : TypeId}
theorem run_neqnil {ρ : Operand → Value} {o : Oper} {ms : Array (String × TypeId)} {E : Value} {bad : Bool} (ho : o.op = .binOp .neq t x (.const .nilIface) t') (ht : P.underlying t = some (.interface ms)) (hx : ρ x = errV E bad) (hc : ρ (.const .nilIface) = .nilIface) (hE : ∃ u q, E = .iface u q) :
    (execOp ρ o).run P w = .ok (.value (.bool bad)) w := by
  obtain ⟨u, q, rfl⟩ := hE
  have e1 : ∀ d, (Op.equalIn (d + 1) t (.iface u q) .nilIface).run P w = .ok false w := by
    intro d
    simp [Op.equalIn, run_underlying ht]
  have e2 : ∀ d, (Op.equalIn (d + 1) t .nilIface .nilIface).run P w = .ok true w := by
    intro d
    simp [Op.equalIn, run_underlying ht]
  cases bad with
  | true =>
    have hx' : ρ x = .iface u q := hx
    simp [execOp, ho, hx', hc, eqGuard, binOp, Op.equal, Op.maxDepth, e1 9999]
  | false =>
    have hx' : ρ x = .nilIface := hx
    simp [execOp, ho, hx', hc, eqGuard, binOp, Op.equal, Op.maxDepth, e2 9999]
theorem wk_neqnil {ms : Array (String × TypeId)} {E : Value} {bad : Bool} (hx : evs σ x = some (errV E bad)) (ht : P.underlying t = some (.interface ms)) (hE : ∃ u q, E = .iface u q) (hd : Nat.blt d nT = true)
    (h : wk P Q nT ((d, .bool bad) :: σ) (.ops all l :: k) w) : wk P Q nT σ (.ops all (⟨some d, .binOp .neq t x (.const .nilIface) t', ty, ps, af, none⟩ :: l) :: k) w :=
  wk_val (fun a ha => run_neqnil rfl ht (ha.ev hx) (ha.ev rfl) hE) hd h
/-- Bytes that came in, appended behind nothing. -/
theorem app_src {ρ : Operand → Value} {o : Oper} {e : TypeId} {X : Nat → Prop} {v : Value} {xs : List UInt8} (hB : ByteT P t e) (ho : o.op = .call ⟨.builtin .append, #[x, y], #[t, t]⟩) (hx : ρ x = .slice none 0 0) (hy : ρ y = v) (hv : BytesRep0 w X v xs) (hl : xs.length ≤ lim) :
    ∃ d' w', (execOp ρ o).run P w = .ok (.value d') w' ∧ SrcRep w' (fun b => b < w.heap.size) d' (srcO xs) ∧ d'.oneCell' = true ∧ Below w.heap.size w w' := by
  obtain ⟨i, hi, hz, hs, hby⟩ := hB.info
  rw [lim_eq] at hl
  rcases hv with ⟨⟨A0, rfl⟩, rfl⟩ | ⟨b, oo, n, c, rfl, _, _, hlen, _, hcell⟩
  · exact ⟨.slice none 0 0, w, run_append_nothing hB ho hx hy (base := w.heap.size) (bs := []) (World.ownsRow_nil w w.heap.size e 1), rfl, rfl, Below.refl _ _⟩
  · subst hlen
    obtain ⟨d', w', h1, h2, h3, h4⟩ := run_append_own (P := P) w w.heap.size t o.type e i (.int .u8 0) 1 1 hB.sl hi hz hs hby rfl (by omega) (.slice none 0 0) 0 [] (World.ownsRow_nil _ _ _ _) ⟨b, oo, none⟩ xs.length c (xs.map bv) (by simp)
      (by intro j u hu
          rw [List.getElem?_map, Option.map_eq_some_iff] at hu
          obtain ⟨q, hq, rfl⟩ := hu
          rw [add_addr]
          exact hcell j q hq)
      (by intro u hu
          obtain ⟨q, _, rfl⟩ := List.mem_map.1 hu
          rfl) (by simp only [maxLen]; omega) (by omega) (Nat.le_refl _)
    refine ⟨d', w', by simp [execOp, ho, resolve, invoke, builtin, hx, hy, h1], ?_, ?_, ⟨h3.os, h3.tape, h3.output, h3.size, fun k hk => h3.block k hk (by simp [Value.ownBlock])⟩⟩
    · cases xs with
      | nil =>
        show d' = _
        exact h4.2 ⟨rfl, rfl⟩
      | cons x0 r =>
        rcases h2.2 with ⟨_, h0⟩ | ⟨g, cap, cur, rfl, hg0, hg, hnc, _, _, htk⟩
        · simp at h0
        · show BytesRep w' _ _ _
          refine ⟨g, 0, _, cap, rfl, by omega, lt_of_some hg, by simp, hnc, fun i q hq => ?_⟩
          refine cell_blk hg ?_
          have h5 : (cur.toList.take ((0 + (x0 :: r).length) * 1))[i]? = some (bv q) := by rw [htk]; simp only [List.nil_append, List.getElem?_map]; rw [hq]; rfl
          have hi := (List.getElem?_eq_some_iff.1 hq).1
          rw [List.getElem?_take_of_lt (by omega)] at h5
          rw [Nat.zero_add]
          exact h5
    · rcases h2.2 with ⟨rfl, _⟩ | ⟨g, cap, cur, rfl, _⟩ <;> rfl
theorem wk_appsrc {e : TypeId} {X : Nat → Prop} {v : Value} {xs : List UInt8} (hB : ByteT P t e) (hy : evs σ y = some v) (hv : BytesRep0 w X v xs) (hl : xs.length ≤ lim) (hd : Nat.blt d nT = true)
    (h : ∀ d' w', SrcRep w' (fun b => b < w.heap.size) d' (srcO xs) → d'.oneCell' = true → Below w.heap.size w w' → wk P Q nT ((d, d') :: σ) (.ops all l :: k) w') :
    wk P Q nT σ (.ops all (⟨some d, .call ⟨.builtin .append, #[.const (.slice none 0 0), y], #[t, t]⟩, ty, ps, af, none⟩ :: l) :: k) w := by
  intro a ha
  obtain ⟨d', w', h1, h2, h3, h4⟩ := app_src (o := ⟨some d, .call ⟨.builtin .append, #[.const (.slice none 0 0), y], #[t, t]⟩, ty, ps, af, none⟩) hB rfl (ha.ev rfl) (ha.ev hy) hv hl
  exact wpT_value rfl h1 (h d' w' h2 h3 h4 _ (ha.put hd d'))
end

theorem below_box {w w1 : World} {o : Obj} (h : (w.alloc o).grownBy w1 (some w.heap.size)) : Below w.heap.size w w1 :=
  ⟨h.os, h.tape, h.output, by have := h.size; simp at this; omega, fun k hk => (h.block k (by simp; omega) (fun e => by cases e; omega)).trans (Below.heap_alloc w o k hk)⟩
theorem below_grown1 {w w1 : World} {B b : Nat} (h : w.grownBy w1 (some b)) (hb : B ≤ b) (hB : B ≤ w.heap.size) : Below B w w1 :=
  ⟨h.os, h.tape, h.output, h.size, fun k hk => h.block k (by omega) (fun e => by cases e; omega)⟩
/-- A message's cells, as they were read. -/
structure MsgAt (w : World) (b0 bt : Nat) (ks : List K) (out : List CV) (vals : List Value) : Prop where
  heap : w.heap[b0]? = some (.cells vals.toArray bt (0, 0))
  len : vals.length = ks.length
  conf : ConfL ks out
  rep : ∀ (k : Nat) (v : Value) (c : CV), vals[k]? = some v → out[k]? = some c → Rep w (fun b => b = b0) v c
section
variable {P : Program} {T : Tab} {R : TabR} {tR g n rW : Nat} {E : Value} {fR fW : Func} {ks : List K} {dv : List Value} {kn : List (Option Value)} {S : Sch} {cs : List CV}
theorem ver_read (hT : TabOK P T) (hR : TabROK P R tR g E) (hbuild : ∀ (A : Option Addr) (n c : Nat), P.built tR [(0, .slice A n c)] = some #[.slice A n c, .bool false]) {iR : TypeInfo} (hiR : P.info? tR = some iR) (hzR : iR.zero = some (.agg #[.slice none 0 0, .bool false])) (hsR : iR.size = 2)
    (V : VerOK T R tR n fR fW rW ks dv kn S) {f : Nat} (hf : P.funcs[f]? = some fR) (hcs : cvs0 ks dv = some cs) (w : World) (b0 : Nat) (bt : TypeId) (sv : Value) (l : List UInt8) (hb0 : w.heap[b0]? = some (.cells dv.toArray bt (0, 0)))
    (hsrc : SrcRep w (fun b => b = b0) sv (srcO l)) (hl : l.length < 130000000) (hone : sv.oneCell' = true) (hg : w.cell? ⟨g, 0, none⟩ = some E) (hg0 : g ≠ b0) :
    Calls P f #[.pointer (some ⟨b0, 0, none⟩), sv, .bool false] w fun e w' => w.grownBy w' (some b0) ∧ ∃ bad, e = .returned (errV E bad) ∧ (bad = true → againR S cs l = none) ∧
      (bad = false → ∃ out vals, againR S cs l = some (runW (wOf S) out) ∧ (runW (wOf S) out).length ≤ 32 * l.length ∧ MsgAt w' b0 bt ks out vals ∧ ∀ k m, cs[0]? = some (.int k m) → vals[0]? = some (.int k m)) := by
  have hcl : cs.length = ks.length := (cvs0_ok hcs).2.1.1
  have hS0 : SOk S 0 cs.length = true := by rw [hcl]; exact SOk.lo V.ok (Nat.zero_le _)
  have hK := V.kok cs hcs
  have hl' : (RS.mk (srcO l) false).rest.length < 130000000 := by rw [srcO_rest]; exact hl
  refine (calls_read hT hR hbuild hiR hzR hsR hf V.rd hcs w b0 bt sv (srcO l) hb0 hsrc hone hg hg0).mono ?_
  rintro e w' ⟨hgr, bad, rfl, h1, h2⟩
  refine ⟨hgr, bad, rfl, fun hb => ?_, fun hb => ?_⟩
  · unfold againR
    split
    · rename_i out s' h3
      rw [h2 hb out s' h3]
      rfl
    · rfl
  · obtain ⟨out, s', vals, h3, h4, h5, h6, h7, h8⟩ := h1 hb
    have hwr := written_le hS0 hK h3 h4 hl'
    rw [srcO_rest] at hwr
    obtain ⟨b, h9, _⟩ := wb_of_rd S 0 cs.length cs _ out s' hS0 hK rfl h3 h4 hl'
    refine ⟨out, vals, ?_, hwr, ⟨h5, by rw [h7, V.len], conf_of_RW S ks 1 cs b out V.kinds V.ok (cvs0_ok hcs).2.1 h9, h8⟩, ?_⟩
    · unfold againR
      rw [h3]
      simp only [h4, Bool.false_eq_true, if_false]
    · intro k m hm
      have ht := (runW_of S 1 ks.length cs b out V.ok hcl h9).2.1
      have ho : out[0]? = some (.int k m) := by
        rw [← hm]
        exact ht 0 (by omega) (apart_free V.ap 0 (by omega) (by omega))
      have hol := (List.getElem?_eq_some_iff.1 ho).1
      have hv : vals[0]? = some (vals[0]'(by omega)) := List.getElem?_eq_getElem _
      have := (h8 0 _ _ hv ho).int_inv
      rw [hv, this]
theorem ver_write (hT : TabOK P T) (hC : Conts P T) (V : VerOK T R tR n fR fW rW ks dv kn S) {f : Nat} (hf : P.funcs[f]? = some fW) (hrs : fW.results = #[.tmp rW]) (h2 : Nat.ble 2 fW.ntmps = true) {w : World} {b0 : Nat} {bt : TypeId} {out : List CV} {vals : List Value} (hM : MsgAt w b0 bt ks out vals)
    (hkn : ∀ (o : Nat) (v : Value), kn[o]? = some (some v) → vals[o]? = some v) (hsz : (runW (wOf S) out).length ≤ lim) :
    Calls P f #[.pointer (some ⟨b0, 0, none⟩), .slice none 0 0] w fun e w' => ∃ d', e = .returned d' ∧ Own w' w.heap.size T.tB d' (runW (wOf S) out) ∧ Below w.heap.size w w' := by
  obtain ⟨c, hb, hx⟩ := V.body
  have hlv : LvOK w w.heap.size ks ⟨b0, 0, 0, vals, out⟩ := ⟨lt_of_some hM.heap, hM.len, hM.conf, fun k v hv => cell_blk (j := 0 + k) hM.heap (by rw [Nat.zero_add]; simpa using hv), fun k v c hv hc => (hM.rep k v c hv hc).mono (fun b hb h => absurd hb (by have : w.heap.size ≤ b := h; omega))⟩
  refine (calls_exec hT hC hf hb hrs h2 hx hlv hkn (bs := []) (World.ownsRow_nil _ _ _ _) (Nat.le_refl _) (by simpa using hsz)).mono ?_
  rintro e w' ⟨d', rfl, ho, hbe⟩
  exact ⟨d', rfl, by simpa using ho, hbe⟩
end
end Go.Proofs.Eng
