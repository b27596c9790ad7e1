/-
  The executor of writing: what its words denote; an operation that reads and computes alone is what the executor says.
-/
import Derived.Test.YtfijlaopidgdpaaEngW
namespace Go.Proofs.Eng
open Go Go.RowKit

structure Lv where
  b : Nat
  o : Nat
  i : Nat
  vals : List Value
  cs : List CV

structure LvOK (w : World) (base : Nat) (sh : List K) (L : Lv) : Prop where
  lt : L.b < base
  len : L.vals.length = sh.length
  conf : ConfL sh L.cs
  cell : ∀ (k : Nat) (v : Value), L.vals[k]? = some v → w.cell? ⟨L.b, L.o + k, none⟩ = some v
  rep : ∀ (k : Nat) (v : Value) (c : CV), L.vals[k]? = some v → L.cs[k]? = some c → Rep w (fun b => base ≤ b) v c

theorem LvOK.below {w w' : World} {base : Nat} {sh : List K} {L : Lv} (h : LvOK w base sh L) (hb : Below base w w') : LvOK w' base sh L :=
  ⟨h.lt, h.len, h.conf, fun k v hv => (hb.cell (p := ⟨L.b, L.o + k, none⟩) h.lt).trans (h.cell k v hv), fun k v c hv hc => (h.rep k v c hv hc).keep (Keeps.of_below hb)⟩

structure Env (w : World) (base : Nat) (shs : List (List K)) (lvs : List Lv) (kn : List (Option Value)) : Prop where
  len : lvs.length = shs.length
  lv : ∀ (j : Nat) (sh : List K) (L : Lv), shs[j]? = some sh → lvs[j]? = some L → LvOK w base sh L
  kn : ∀ (o : Nat) (v : Value) (L : Lv), kn[o]? = some (some v) → lvs[0]? = some L → L.vals[o]? = some v

theorem Env.below {w w' : World} {base : Nat} {shs : List (List K)} {lvs : List Lv} {kn : List (Option Value)} (h : Env w base shs lvs kn) (hb : Below base w w') : Env w' base shs lvs kn :=
  ⟨h.len, fun j sh L h1 h2 => (h.lv j sh L h1 h2).below hb, h.kn⟩

def Den (lvs : List Lv) (d : Value) : AV → Value → Prop
  | .cst u, v => v = u
  | .ptr j off, v => ∃ L, lvs[j]? = some L ∧ v = .pointer (some ⟨L.b, L.o + off, none⟩)
  | .fld j off n ag, v => ∃ L, lvs[j]? = some L ∧ off + n ≤ L.vals.length ∧ (if ag then v = .agg ((L.vals.drop off).take n).toArray else n = 1 ∧ L.vals[off]? = some v)
  | .fldc j off k, v => ∃ L k' n, lvs[j]? = some L ∧ L.vals[off]? = some (.int k' n) ∧ v = .int k (k.wrap n)
  | .dst, v => v = d
  | .len j off, v => ∃ L nl n es, lvs[j]? = some L ∧ L.cs[off]? = some (.arr nl n es) ∧ v = .int .i64 n
  | .isn j off, v => ∃ L nl n es, lvs[j]? = some L ∧ L.cs[off]? = some (.arr nl n es) ∧ v = .bool nl
  | .tagl j off, v => ∃ L l, lvs[j]? = some L ∧ L.cs[off]? = some (.tags l) ∧ v = .int .i64 l.length ∧ l.length < 4294967296
  | .tagu j off, v => ∃ L l, lvs[j]? = some L ∧ L.cs[off]? = some (.tags l) ∧ v = .int .u32 l.length ∧ l.length < 4294967296
  | .idx j off, v => ∃ L M n c, lvs[j]? = some L ∧ lvs[j + 1]? = some M ∧ L.vals[off]? = some (.slice (some ⟨M.b, 0, none⟩) n c) ∧ M.i < n ∧ M.o = M.i * M.vals.length ∧ v = .int .i64 M.i

def Gam (lvs : List Lv) (d : Value) (σ : Sg) (a : Act) : Prop := ∀ t x, (t, x) ∈ σ → Den lvs d x (a.eval (.tmp t))

structure TabOK (P : Program) (T : Tab) : Prop where
  structs : ∀ s l, (s, l) ∈ T.structs → ∃ fs : Array Field, P.underlying s = some (.struct fs) ∧
    ∀ (k fo : Nat), l[k]? = some fo → ∃ (f : Field) (i : TypeInfo), fs[k]? = some f ∧ f.offset = fo ∧ P.info? f.type = some i ∧ i.size ≠ 0
  sizes : ∀ t n ag, (t, (n, ag)) ∈ T.sizes → ∃ d i, P.underlying t = some d ∧ P.info? t = some i ∧ i.size = n ∧ aggB d = ag ∧ (ag = false → n = 1)
  slices : ∀ t n, (t, n) ∈ T.slices → ∃ e i, P.underlying t = some (.slice e) ∧ P.info? e = some i ∧ i.size = n
  convs : ∀ t k, (t, k) ∈ T.convs → P.underlying t = some (.int k)
  boxes : ∀ t, t ∈ T.boxes → ∃ d i z, P.underlying t = some d ∧ aggB d = true ∧ P.info? t = some i ∧ i.zero = some z ∧ z.cells.size = i.size

theorem av_ok {lvs : List Lv} {d : Value} {σ : Sg} {a : Act} (hG : Gam lvs d σ a) {x : Operand} {y : AV} (h : av σ x = some y) : Den lvs d y (a.eval x) := by
  cases x with
  | tmp t => exact hG t y (look_mem h)
  | const v => simp only [av, Option.some.injEq] at h; subst h; rfl
  | global g => simp [av] at h
  | func f => simp [av] at h

theorem add_addr (b o n : Nat) : (⟨b, o, none⟩ : Addr).add n = ⟨b, o + n, none⟩ := by unfold Addr.add; split <;> simp_all

theorem run_load_agg {P : Program} {ρ : Operand → Value} {w : World} {o : Oper} {x : Operand} {t : TypeId} {ad : Addr} {vs : List Value} {d : TypeDesc} {i : TypeInfo} (ho : o.op = .load t x) (hc : ρ x = .pointer (some ad))
    (hs : P.underlying t = some d) (hd : aggB d = true) (hi : P.info? t = some i) (hn : i.size = vs.length)
    (hv : ∀ j v, vs[j]? = some v → w.cell? (ad.add j) = some v) : (execOp ρ o).run P w = .ok (.value (.agg vs.toArray)) w := by
  have hag : (isAgg t).run P w = .ok true w := by
    simp only [isAgg, Sem.run_bind, run_underlying hs, Result.andThen_ok]
    cases d <;> simp_all [aggB]
  simp only [execOp, ho, hc, Instr.loadAt, Instr.sureAddr, loadVar, Sem.run_bind, Sem.run_pure, Result.andThen_ok, hag, if_true, sizeOf, typeInfo, run_program, hi, hn,
    run_loadCells_list (P := P) w ad vs hv]

theorem run_cmp {P : Program} {ρ : Operand → Value} {w : World} {o : Oper} {op : BinOp} {x y : Operand} {t t' : TypeId} {k : IntKind} {p q : Int} {b : Bool} (ho : o.op = .binOp op t x y t')
    (hx : ρ x = .int k p) (hy : ρ y = .int k q) (hc : cmp op p q = some b) : (execOp ρ o).run P w = .ok (.value (.bool b)) w := by
  cases op <;> simp only [cmp, Option.some.injEq, reduceCtorEq] at hc <;> subst hc <;> simp [execOp, ho, hx, hy, eqGuard, binOp, Op.intCmp]

theorem run_eqlslice {P : Program} {ρ : Operand → Value} {w : World} {o : Oper} {op : BinOp} {x y : Operand} {t t' e : TypeId} {A : Option Addr} {n c : Nat} (ho : o.op = .binOp op t x y t')
    (hop : op = .eql ∨ op = .neq) (hs : P.underlying t = some (.slice e)) (hx : ρ x = .slice A n c) (hy : ρ y = .slice none 0 0) :
    (execOp ρ o).run P w = .ok (.value (.bool (if op = .eql then A.isNone else !A.isNone))) w := by
  have heq : ∀ d, (Op.equalIn (d + 1) t (.slice A n c) (.slice none 0 0)).run P w = .ok A.isNone w := by
    intro d
    cases A <;> simp [Op.equalIn, run_underlying hs]
  rcases hop with rfl | rfl
  · simp [execOp, ho, hx, hy, eqGuard, binOp, Op.equal, Op.maxDepth, heq 9999]
  · simp [execOp, ho, hx, hy, eqGuard, binOp, Op.equal, Op.maxDepth, heq 9999]

theorem run_convert {P : Program} {ρ : Operand → Value} {w : World} {o : Oper} {x : Operand} {s t : TypeId} {k k' k0 : IntKind} {n : Int} (ho : o.op = .convert s t x)
    (hs : P.underlying s = some (.int k0)) (ht : P.underlying t = some (.int k')) (hx : ρ x = .int k n) : (execOp ρ o).run P w = .ok (.value (.int k' (k'.wrap n))) w := by
  simp [execOp, ho, hx, convert, run_underlying hs, run_underlying ht, Conv.intToInt]

theorem run_len {P : Program} {ρ : Operand → Value} {w : World} {o : Oper} {x : Operand} {t e : TypeId} {A : Option Addr} {n c : Nat} (ho : o.op = .call ⟨.builtin .len, #[x], #[t]⟩)
    (hs : P.underlying t = some (.slice e)) (hx : ρ x = .slice A n c) : (execOp ρ o).run P w = .ok (.value (.int .i64 n)) w := by
  simp [execOp, ho, hx, resolve, invoke, builtin, Builtin.len_, run_underlying hs, goInt]

theorem run_indexAddr {P : Program} {ρ : Operand → Value} {w : World} {o : Oper} {x y : Operand} {t e : TypeId} {b off n c j : Nat} {i : TypeInfo} (ho : o.op = .indexAddr t x y)
    (hs : P.underlying t = some (.slice e)) (hi : P.info? e = some i) (hx : ρ x = .slice (some ⟨b, off, none⟩) n c) (k : IntKind) (hy : ρ y = .int k j) (hj : j < n) :
    (execOp ρ o).run P w = .ok (.value (.pointer (some ⟨b, off + j * i.size, none⟩))) w := by
  have h1 : (0 : Int) ≤ (j : Int) := Int.natCast_nonneg _
  have h2 : (j : Int) < (n : Int) := by omega
  simp [execOp, ho, hx, hy, Instr.indexAt, run_underlying hs, asIntOf, sizeOf, typeInfo, hi, add_addr, hj]

theorem Rep.slice_arr {w : World} {X : Nat → Prop} {v : Value} {nl : Bool} {n : Nat} {es : List CV} (h : Rep w X v (.arr nl n es)) :
    ∃ A c, v = .slice A n c ∧ A.isNone = nl := by
  cases h with
  | anil => exact ⟨none, 0, rfl, rfl⟩
  | arr b n cap t cur cs hb h hl hc hr => exact ⟨_, cap, rfl, rfl⟩
theorem Conf.arr_inv {sh : List K} {c : CV} (h : Conf (.arr sh) c) : ∃ nl n es, c = .arr nl n es := by cases h; exact ⟨_, _, _, rfl⟩
theorem Conf.int_inv {k : IntKind} {c : CV} (h : Conf (.int k) c) : ∃ n, c = .int k n ∧ k.wrap n = n := by cases h; rename_i n h; exact ⟨n, rfl, h⟩
theorem Conf.tags_inv {e : Bool} {c : CV} (h : Conf (.tags e) c) : ∃ l, c = .tags l ∧ l.Pairwise (fun a b => a.1 < b.1) ∧ (∀ t ∈ l, t.1 < 4294967296) ∧ l.length < 2147483648 ∧ (e = true → l = []) := by cases h; rename_i l h h2 h3 h4; exact ⟨l, rfl, h, h2, h3, h4⟩
theorem Rep.int_inv {w : World} {X : Nat → Prop} {v : Value} {k : IntKind} {n : Int} (h : Rep w X v (.int k n)) : v = .int k n := by cases h; rfl

/-- A cell of a level, of a known kind. -/
theorem Env.at {w : World} {base : Nat} {shs : List (List K)} {lvs : List Lv} {kn : List (Option Value)} (hE : Env w base shs lvs kn) {j o : Nat} {kk : K} (h : kAt shs j o = some kk) :
    ∃ L v c, lvs[j]? = some L ∧ L.vals[o]? = some v ∧ L.cs[o]? = some c ∧ Rep w (fun b => base ≤ b) v c ∧ Conf kk c ∧ w.cell? ⟨L.b, L.o + o, none⟩ = some v ∧ L.b < base := by
  simp only [kAt] at h
  cases hs : shs[j]? with
  | none => simp [hs] at h
  | some sh =>
    simp only [hs] at h
    have hj : j < lvs.length := by
      rw [hE.len]
      exact (List.getElem?_eq_some_iff.1 hs).1
    have hL : lvs[j]? = some lvs[j] := List.getElem?_eq_getElem hj
    have ok := hE.lv j sh _ hs hL
    have ho : o < sh.length := (List.getElem?_eq_some_iff.1 h).1
    have hv : (lvs[j]).vals[o]? = some ((lvs[j]).vals[o]'(by rw [ok.len]; exact ho)) := List.getElem?_eq_getElem _
    have hc : (lvs[j]).cs[o]? = some ((lvs[j]).cs[o]'(by rw [ok.conf.1]; exact ho)) := List.getElem?_eq_getElem _
    exact ⟨lvs[j], _, _, hL, hv, hc, ok.rep o _ _ hv hc, ok.conf.2 o _ _ hc h, ok.cell o _ hv, ok.lt⟩

theorem pop_ok {P : Program} {T : Tab} (hT : TabOK P T) {w : World} {base : Nat} {shs : List (List K)} {lvs : List Lv} {kn : List (Option Value)} (hE : Env w base shs lvs kn)
    {d : Value} {σ : Sg} {a : Act} (hG : Gam lvs d σ a) (o : Oper) {x : AV} (h : pop T kn shs σ o.op = some x) :
    ∃ v, (execOp a.eval o).run P w = .ok (.value v) w ∧ Den lvs d x v := by
  generalize hop : o.op = op at h
  cases op with
  | move y => exact ⟨_, run_move _ _ hop, av_ok hG h⟩
  | assign y => exact ⟨_, run_assign _ _ hop, av_ok hG h⟩
  | pick c y z =>
    simp only [pop] at h
    split at h
    · rename_i hc
      exact ⟨_, run_pick _ _ hop (av_ok hG hc), av_ok hG h⟩
    · rename_i hc
      exact ⟨_, run_pick _ _ hop (av_ok hG hc), av_ok hG h⟩
    · cases h
  | unOp u t y =>
    cases u <;> simp only [pop, reduceCtorEq] at h
    split at h
    · rename_i b hc
      cases h
      exact ⟨_, run_not _ _ hop (av_ok hG hc), rfl⟩
    · cases h
  | nilCheck y =>
    simp only [pop] at h
    split at h
    · rename_i j oo hc
      cases h
      obtain ⟨L, hL, hv⟩ := av_ok hG hc
      exact ⟨_, run_nilCheck _ _ hop hv, L, hL, rfl⟩
    · cases h
  | fieldAddr s y f =>
    simp only [pop] at h
    split at h
    · rename_i j oo fo hc hf
      cases h
      obtain ⟨L, hL, hv⟩ := av_ok hG hc
      simp only [Tab.off] at hf
      split at hf
      · rename_i l hl
        obtain ⟨fs, h1, h2⟩ := hT.structs s l (look_mem hl)
        obtain ⟨fd, i, h3, h4, h5, h6⟩ := h2 f fo hf
        refine ⟨_, run_fieldAddr _ _ hop hv h1 h3 h5 h6, L, hL, ?_⟩
        rw [add_addr, h4, Nat.add_assoc]
      · cases hf
    · cases h
  | load t y =>
    simp only [pop] at h
    split at h
    · rename_i j oo n ag hc hsz
      obtain ⟨L, hL, hv⟩ := av_ok hG hc
      obtain ⟨dd, i, h1, h2, h3, h4, h5⟩ := hT.sizes t n ag (look_mem hsz)
      split at h
      · rename_i sh hsh
        have ok := hE.lv j sh L hsh hL
        split at h
        · rename_i hle
          have hle := Nat.le_of_ble_eq_true hle
          have key : ∃ v, (execOp a.eval o).run P w = .ok (.value v) w ∧ (if ag then v = .agg ((L.vals.drop oo).take n).toArray else n = 1 ∧ L.vals[oo]? = some v) := by
            cases ag with
            | true =>
              refine ⟨_, run_load_agg (vs := (L.vals.drop oo).take n) hop hv h1 h4 h2 ?_ ?_, rfl⟩
              · rw [h3, List.length_take, List.length_drop, ok.len]; omega
              · intro q u hq
                rw [add_addr, Nat.add_assoc]
                refine ok.cell _ _ ?_
                rw [List.getElem?_take] at hq
                split at hq
                · rwa [List.getElem?_drop] at hq
                · cases hq
            | false =>
              have hn : n = 1 := h5 rfl
              have hlt : oo < L.vals.length := by rw [ok.len]; omega
              have hvv : L.vals[oo]? = some L.vals[oo] := List.getElem?_eq_getElem hlt
              exact ⟨_, run_load1 _ _ hop hv h1 h4 (ok.cell oo _ hvv), hn, hvv⟩
          obtain ⟨v, hrun, hval⟩ := key
          split at h
          · rename_i v0 hk
            split at h
            · rename_i hn1
              cases h
              split at hk
              · rename_i hj
                simp only [Bool.and_eq_true, Nat.beq_eq, Bool.not_eq_true'] at hj
                obtain ⟨rfl, rfl⟩ := hj
                refine ⟨v, hrun, ?_⟩
                have := hE.kn oo v0 L hk hL
                simp only [Bool.false_eq_true, if_false] at hval
                rw [hval.2] at this
                cases this
                rfl
              · cases hk
            · cases h
          · cases h
            exact ⟨v, hrun, L, hL, by rw [ok.len]; omega, hval⟩
        · cases h
      · cases h
    · cases h
  | binOp bop t y z t' =>
    simp only [pop] at h
    split at h
    · rename_i k p k' q hx hy
      split at h
      · rename_i hk
        obtain rfl := ikeq_eq hk
        rw [Option.map_eq_some_iff] at h
        obtain ⟨b, hb, rfl⟩ := h
        exact ⟨_, run_cmp hop (av_ok hG hx) (av_ok hG hy) hb, rfl⟩
      · cases h
    · rename_i j oo n hx hy
      split at h
      · rename_i esz sh hsl hk
        cases h
        obtain ⟨e, i, h1, h2, h3⟩ := hT.slices t esz (look_mem hsl)
        obtain ⟨L, hL, hlen, hv⟩ := av_ok hG hx
        obtain ⟨L', v, c, hL', hvv, hcc, hrep, hconf, _, _⟩ := hE.at hk
        rw [hL] at hL'; cases hL'
        simp only [Bool.false_eq_true, if_false] at hv
        rw [hv.2] at hvv
        obtain ⟨nl, m, es, rfl⟩ := hconf.arr_inv
        obtain rfl := Option.some.inj hvv
        obtain ⟨A, cc, hA, hAn⟩ := hrep.slice_arr
        exact ⟨_, run_eqlslice hop (.inl rfl) h1 hA (av_ok hG hy), L, nl, m, es, hL, hcc, by simp [hAn]⟩
      · cases h
    · rename_i hx hy
      split at h
      · rename_i esz hsl
        cases h
        obtain ⟨e, i, h1, h2, h3⟩ := hT.slices t esz (look_mem hsl)
        exact ⟨_, run_eqlslice hop (.inl rfl) h1 (av_ok hG hx) (av_ok hG hy), rfl⟩
      · rename_i esz hsl
        cases h
        obtain ⟨e, i, h1, h2, h3⟩ := hT.slices t esz (look_mem hsl)
        exact ⟨_, run_eqlslice hop (.inr rfl) h1 (av_ok hG hx) (av_ok hG hy), rfl⟩
      · cases h
    · rename_i j oo hx hy
      split at h
      · cases h
        obtain ⟨L, l, hL, hc, hv, hl⟩ := av_ok hG hy
        refine ⟨.int .u32 l.length, ?_, L, l, hL, hc, rfl, hl⟩
        have hx' : a.eval y = .int .u32 0 := av_ok hG hx
        have hw : IntKind.u32.wrap (0 + (l.length : Int)) = l.length := by
          simp [IntKind.wrap, IntKind.bits, IntKind.signed]
          omega
        rw [Int.zero_add] at hw
        simp [execOp, hop, hx', hv, eqGuard, binOp, Op.intArith, hw]
      · cases h
    · rename_i j oo hx hy
      split at h
      · cases h
        obtain ⟨L, l, hL, hc, hv, hl⟩ := av_ok hG hy
        refine ⟨.int .i64 l.length, ?_, L, l, hL, hc, rfl, hl⟩
        have hx' : a.eval y = .int .i64 0 := av_ok hG hx
        have hw : IntKind.i64.wrap (0 + (l.length : Int)) = l.length := by
          simp [IntKind.wrap, IntKind.bits, IntKind.signed]
          omega
        rw [Int.zero_add] at hw
        simp [execOp, hop, hx', hv, eqGuard, binOp, Op.intArith, hw]
      · cases h
    · cases h
  | convert s t y =>
    simp only [pop] at h
    split at h
    · rename_i j oo hx hs ht
      cases h
      obtain ⟨L, l, hL, hc, hv, hl⟩ := av_ok hG hx
      refine ⟨_, run_convert hop (hT.convs _ _ (look_mem hs)) (hT.convs _ _ (look_mem ht)) hv, L, l, hL, hc, ?_, hl⟩
      simp [IntKind.wrap, IntKind.bits, IntKind.signed]
      omega
    · rename_i j oo k k' hx hs ht
      split at h
      · rename_i kk hk
        cases h
        obtain ⟨L, hL, hlen, hv⟩ := av_ok hG hx
        obtain ⟨L', v, c, hL', hvv, hcc, hrep, hconf, _, _⟩ := hE.at hk
        rw [hL] at hL'; cases hL'
        simp only [Bool.false_eq_true, if_false] at hv
        rw [hv.2] at hvv
        obtain ⟨n, rfl, hn⟩ := hconf.int_inv
        have := hrep.int_inv
        cases hvv
        refine ⟨_, run_convert hop (hT.convs _ _ (look_mem hs)) (hT.convs _ _ (look_mem ht)) this, L, kk, n, hL, ?_, rfl⟩
        rw [hv.2, this]
      · cases h
    · rename_i n k' k hx hs ht
      cases h
      exact ⟨_, run_convert hop (hT.convs _ _ (look_mem hs)) (hT.convs _ _ (look_mem ht)) (av_ok hG hx), rfl⟩
    · cases h
  | call c =>
    obtain ⟨cal, args, ts⟩ := c
    simp only [pop] at h
    split at h
    · rename_i y t hargs hts
      obtain rfl : args = #[y] := by apply Array.toList_inj.1; simpa using hargs
      obtain rfl : ts = #[t] := by apply Array.toList_inj.1; simpa using hts
      split at h
      · rename_i j oo n esz hx hsl
        split at h
        · rename_i sh hk
          cases h
          obtain ⟨e, i, h1, h2, h3⟩ := hT.slices t esz (look_mem hsl)
          obtain ⟨L, hL, hlen, hv⟩ := av_ok hG hx
          obtain ⟨L', v, c, hL', hvv, hcc, hrep, hconf, _, _⟩ := hE.at hk
          rw [hL] at hL'; cases hL'
          simp only [Bool.false_eq_true, if_false] at hv
          rw [hv.2] at hvv
          obtain ⟨nl, m, es, rfl⟩ := hconf.arr_inv
          obtain ⟨A, cc, hA, _⟩ := hrep.slice_arr
          cases hvv
          exact ⟨_, run_len hop h1 hA, L, nl, m, es, hL, hcc, rfl⟩
        · cases h
      · rename_i esz hx hsl
        cases h
        obtain ⟨e, i, h1, h2, h3⟩ := hT.slices t esz (look_mem hsl)
        exact ⟨_, run_len hop h1 (av_ok hG hx), rfl⟩
      · cases h
    · cases h
  | indexAddr t y z =>
    simp only [pop] at h
    split at h
    · rename_i j oo n j' o' esz sh hx hz hsl hsh
      split at h
      · rename_i hcond
        simp only [Bool.and_eq_true, Nat.beq_eq] at hcond
        obtain ⟨⟨⟨hj, he⟩, rfl⟩, rfl⟩ := hcond
        cases h
        obtain ⟨e, i, h1, h2, h3⟩ := hT.slices t esz (look_mem hsl)
        obtain ⟨L, hL, hlen, hv⟩ := av_ok hG hx
        obtain ⟨L', M, m, c, hL', hM, hslice, hlt, hMo, hidx⟩ := av_ok hG hz
        rw [hL] at hL'; cases hL'
        simp only [Bool.false_eq_true, if_false] at hv
        rw [hv.2] at hslice
        have hshM : shs[j' + 1]? = some sh := by
          rw [List.getLast?_eq_getElem?] at hsh
          rw [← hsh]; congr 1; omega
        have okM := hE.lv (j' + 1) sh M hshM hM
        refine ⟨_, run_indexAddr hop h1 h2 (Option.some.inj hslice) .i64 hidx hlt, M, hM, ?_⟩
        rw [h3, he, Nat.zero_add, hMo, okM.len, Nat.add_zero]
      · cases h
    · cases h
  | _ => simp [pop] at h

end Go.Proofs.Eng
