/-
  A function that appends a struct, by the executor; structs of plain cells; the remainder; lists of fields in memory; the row's last step.
-/
import Derived.Test.YtbcfmhgcpijfnaaDoorEngF
import Derived.Test.YtbcfmhgcpijfnaaDoorPA
import Derived.ProofKit
set_option linter.unusedVariables false
set_option linter.unusedSimpArgs false
namespace Go.Proofs.Eng
open Go Go.RowKit
attribute [local semireducible] wk wkD

theorem calls_exec {P : Program} {T : Tab} (hT : TabOK P T) (hC : Conts P T) {f : FuncId} {fn : Func} {c : Code} (hf : P.funcs[f]? = some fn) (hb : fn.body = some c) {r : Nat} (hrs : fn.results = #[.tmp r]) (h2 : Nat.ble 2 fn.ntmps = true)
    {kn : List (Option Value)} {sh : List K} {n : Nat} {wp : WP} (hx : execW T kn fn.ntmps n (some r) [sh] [(0, .ptr 0 0), (1, .dst)] [.code c] = some wp)
    {w : World} {base b : Nat} {d : Value} {bs : List UInt8} {vals : List Value} {cs : List CV} (hlv : LvOK w base sh ⟨b, 0, 0, vals, cs⟩) (hkn : ∀ (o : Nat) (v : Value), kn[o]? = some (some v) → vals[o]? = some v)
    (hown : Own w base T.tB d bs) (hbase : base ≤ w.heap.size) (hsz : bs.length + (runW wp cs).length ≤ lim) :
    Calls P f #[.pointer (some ⟨b, 0, none⟩), d] w fun e w' => ∃ d', e = .returned d' ∧ Own w' base T.tB d' (bs ++ runW wp cs) ∧ Below base w w' := by
  refine calls_wk (args := [.pointer (some ⟨b, 0, none⟩), d]) hf hb (by simpa using h2) ?_
  intro a ha
  refine execW_ok hT hC n (some r) [sh] _ _ wp hx _ base [⟨b, 0, 0, vals, cs⟩] w a d bs _ ⟨rfl, ?_, ?_⟩ ?_ ha.1 ha.2.1 rfl hown hbase hsz ?_
  · intro j sh' L h1 h2
    cases j with
    | zero => cases h1; cases h2; exact hlv
    | succ j => simp at h1
  · intro o v L h1 h2
    cases h2
    exact hkn o v h1
  · intro t x hx
    simp only [List.mem_cons, Prod.mk.injEq, List.not_mem_nil, or_false] at hx
    rcases hx with ⟨rfl, rfl⟩ | ⟨rfl, rfl⟩
    · exact ⟨_, rfl, ha.2.2 0 _ rfl⟩
    · exact ha.2.2 1 _ rfl
  · intro a' w' d' hA hd
    refine post_ret (results_tmp hrs _ _ _) (hA.defers.trans ha.2.1) ⟨d', ?_, hA.own, hA.below⟩
    rw [← hd]
    rfl

/-- The content of a cell that points nowhere. -/
def cv0 : K → Value → Option CV
  | .int k, .int k' n => if ikeq k k' && decide (k.wrap n = n) then some (.int k n) else none
  | .bool, .bool b => some (.bool b)
  | .flt, .float .f64 b => if Nat.blt b 18446744073709551616 then some (.flt b) else none
  | .str, .string s => some (.str s.data.toList)
  | .pstr, .pointer none => some (.pstr none)
  | .bytes, .slice none 0 0 => some (.bytes none)
  | .tags _, .map none => some (.tags [])
  | .arr _, .slice none 0 0 => some (.arr true 0 [])
  | _, _ => none
def cvs0 : List K → List Value → Option (List CV)
  | [], [] => some []
  | k :: ks, v :: vs => match cv0 k v, cvs0 ks vs with
    | some c, some cs => some (c :: cs)
    | _, _ => none
  | _, _ => none
theorem cv0_ok {k : K} {v : Value} {c : CV} (h : cv0 k v = some c) : Conf k c ∧ ∀ (w : World) (X : Nat → Prop), Rep w X v c := by
  unfold cv0 at h
  split at h <;> try cases h
  · split at h
    · rename_i hb
      simp only [Bool.and_eq_true, decide_eq_true_eq] at hb
      cases ikeq_eq hb.1
      cases h
      exact ⟨.int _ _ hb.2, fun _ _ => .int _ _⟩
    · cases h
  · exact ⟨.bool _, fun _ _ => .bool _⟩
  · split at h
    · rename_i hb
      cases h
      exact ⟨.flt _ (by simpa [Nat.blt_eq] using hb), fun _ _ => .flt _⟩
    · cases h
  · exact ⟨.str _, fun _ _ => .str _⟩
  · exact ⟨.pstr _, fun _ _ => .pnil⟩
  · exact ⟨.bytes _, fun _ _ => .bnil⟩
  · exact ⟨.tags _ _ (by simp) (by simp) (by simp) (fun _ => rfl), fun _ _ => .tnil⟩
  · exact ⟨.arr _ _ _ _ (by simp) (fun _ => rfl) (by simp) (fun i c kk h => by simp at h), fun _ _ => .anil _ _⟩
theorem cvs0_ok {ks : List K} : ∀ {vs : List Value} {cs : List CV}, cvs0 ks vs = some cs → vs.length = ks.length ∧ ConfL ks cs ∧ ∀ (w : World) (X : Nat → Prop) (k : Nat) (v : Value) (c : CV), vs[k]? = some v → cs[k]? = some c → Rep w X v c := by
  induction ks with
  | nil =>
    intro vs cs h
    cases vs with
    | nil => cases h; exact ⟨rfl, ⟨rfl, fun i c kk h => by simp at h⟩, fun _ _ k v c h => by simp at h⟩
    | cons v vs => cases h
  | cons k ks ih =>
    intro vs cs h
    cases vs with
    | nil => cases h
    | cons v vs =>
      simp only [cvs0] at h
      split at h
      · rename_i c cs' h1 h2
        cases h
        obtain ⟨a1, a2, a3⟩ := ih h2
        obtain ⟨b1, b2⟩ := cv0_ok h1
        refine ⟨by simp [a1], ⟨by simp [a2.1], ?_⟩, ?_⟩
        · intro i c' kk hi hk
          cases i with
          | zero => cases hi; cases hk; exact b1
          | succ i => exact a2.2 i c' kk (by simpa using hi) (by simpa using hk)
        · intro w X i u c' hi hc
          cases i with
          | zero => cases hi; cases hc; exact b2 w X
          | succ i => exact a3 w X i u c' (by simpa using hi) (by simpa using hc)
      · cases h
theorem lvOK0 {w : World} {base b : Nat} {sh : List K} {vals : List Value} {cs : List CV} {t : TypeId} {z : Nat × Nat} (h : cvs0 sh vals = some cs) (hb : w.heap[b]? = some (.cells vals.toArray t z)) (hlt : b < base) : LvOK w base sh ⟨b, 0, 0, vals, cs⟩ := by
  obtain ⟨h1, h2, h3⟩ := cvs0_ok h
  refine ⟨hlt, h1, h2, fun k v hv => ?_, fun k v c hv hc => h3 w _ k v c hv hc⟩
  exact cell_blk (j := 0 + k) hb (by rw [Nat.zero_add]; simpa using hv)

/-- A new message at a version, by the executor and by the reference. -/
def newB (T : Tab) (kn : List (Option Value)) (fn : Func) (n r : Nat) (sh : List K) (vals : List Value) (out : List UInt8) : Bool := match fn.body with
  | none => false
  | some c => match execW T kn fn.ntmps n (some r) [sh] [(0, .ptr 0 0), (1, .dst)] [.code c], cvs0 sh vals with
    | some wp, some cs => runW wp cs == out
    | _, _ => false
def knB : List (Option Value) → List Value → Bool
  | [], _ => true
  | none :: r, _ :: vs => knB r vs
  | none :: r, [] => knB r []
  | some _ :: _, [] => false
  | some v :: r, u :: vs => (match v, u with
    | .int k n, .int k' n' => ikeq k k' && n == n'
    | .slice none 0 0, .slice none 0 0 => true
    | .pointer none, .pointer none => true
    | _, _ => false) && knB r vs
theorem knB_ok {kn : List (Option Value)} : ∀ {vals : List Value}, knB kn vals = true → ∀ (o : Nat) (v : Value), kn[o]? = some (some v) → vals[o]? = some v := by
  induction kn with
  | nil => intro vals _ o v h; simp at h
  | cons x r ih =>
    intro vals h o v ho
    cases vals with
    | nil =>
      cases x with
      | some x => simp [knB] at h
      | none =>
        cases o with
        | zero => cases ho
        | succ o => have := ih (vals := []) (by simpa [knB] using h) o v (by simpa using ho); simp at this
    | cons u vs =>
      cases x with
      | none =>
        cases o with
        | zero => cases ho
        | succ o => simpa using ih (vals := vs) (by simpa [knB] using h) o v (by simpa using ho)
      | some x =>
        simp only [knB, Bool.and_eq_true] at h
        cases o with
        | succ o => simpa using ih h.2 o v (by simpa using ho)
        | zero =>
          cases ho
          have h1 := h.1
          split at h1
          · simp only [Bool.and_eq_true, beq_iff_eq] at h1
            obtain ⟨a, rfl⟩ := h1
            rw [ikeq_eq a]
            rfl
          · rfl
          · rfl
          · cases h1
theorem calls_new {P : Program} {T : Tab} (hT : TabOK P T) (hC : Conts P T) {f : FuncId} {fn : Func} (hf : P.funcs[f]? = some fn) {r n : Nat} (hrs : fn.results = #[.tmp r]) (h2 : Nat.ble 2 fn.ntmps = true)
    {kn : List (Option Value)} {sh : List K} {vals : List Value} {out : List UInt8} (hB : newB T kn fn n r sh vals out = true) (hk : knB kn vals = true) {w : World} {b : Nat} {t : TypeId} {z : Nat × Nat} (hb : w.heap[b]? = some (.cells vals.toArray t z)) (hl : out.length ≤ lim) :
    Calls P f #[.pointer (some ⟨b, 0, none⟩), .slice none 0 0] w fun e w' => ∃ d', e = .returned d' ∧ Own w' w.heap.size T.tB d' out ∧ Below w.heap.size w w' := by
  unfold newB at hB
  split at hB
  · cases hB
  · rename_i c hc
    split at hB
    · rename_i wp cs h1 h3
      have he : runW wp cs = out := by simpa using hB
      subst he
      refine (calls_exec hT hC hf hc hrs h2 h1 (lvOK0 h3 hb (lt_of_some hb)) (knB_ok hk) (bs := []) (World.ownsRow_nil _ _ _ _) (Nat.le_refl _) (by simpa using hl)).mono ?_
      rintro e w' ⟨d', rfl, ho, hbe⟩
      exact ⟨d', rfl, by simpa using ho, hbe⟩
    · cases hB

/-- The remainder of numbers that are not below zero. -/
theorem run_rem {P : Program} {ρ : Operand → Value} {w : World} {o : Oper} {x y : Operand} {t t' : TypeId} {k : IntKind} {n m : Int} (ho : o.op = .binOp .rem t x y t') (hx : ρ x = .int k n) (hy : ρ y = .int k m) (hm : m ≠ 0) : (execOp ρ o).run P w = .ok (.value (.int k (n.tmod m))) w := by
  simp [execOp, ho, hx, hy, eqGuard, binOp, Op.intDiv, hm]
theorem wk_rem {P : Program} {Q : Exit → Act → World → Prop} {nT : Nat} {σ : Sv} {k : List TD} {w : World} {all : Array Oper} {l : List Oper} {ty : TypeId} {ps : String} {af : Array Edge} {d : Nat} {x y : Operand} {t t' : TypeId} {kk : IntKind} {n m : Int}
    (hx : evs σ x = some (.int kk n)) (hy : evs σ y = some (.int kk m)) (hm : m ≠ 0) (hd : Nat.blt d nT = true) (h : wk P Q nT ((d, .int kk (n.tmod m)) :: σ) (.ops all l :: k) w) :
    wk P Q nT σ (.ops all (⟨some d, .binOp .rem t x y t', ty, ps, af, none⟩ :: l) :: k) w := wk_val (fun _ ha => run_rem rfl (ha.ev hx) (ha.ev hy) hm) hd h

theorem one2 {u v : Value} (hu : u.oneCell' = true) (hv : v.oneCell' = true) : (#[u, v] : Array Value).all (·.oneCell') = true := by simp [hu, hv]
/-- The lists of fields within fields, in memory. -/
def AllSub (w : World) (X : Nat → Prop) : List Fld → List Value → Prop
  | [], [] => True
  | f :: r, v :: vs => FRep w X v f.sub ∧ AllSub w X r vs
  | _, _ => False
theorem AllSub.at {w : World} {X : Nat → Prop} : ∀ {fs : List Fld} {vs : List Value}, AllSub w X fs vs → vs.length = fs.length ∧ ∀ (i : Nat) (f : Fld), fs[i]? = some f → ∃ v, vs[i]? = some v ∧ FRep w X v f.sub := by
  intro fs
  induction fs with
  | nil => intro vs h; cases vs with
    | nil => exact ⟨rfl, fun i f h => by simp at h⟩
    | cons _ _ => cases h
  | cons g r ih => intro vs h; cases vs with
    | nil => cases h
    | cons v vs =>
      obtain ⟨h1, h2⟩ := ih h.2
      refine ⟨by simp [h1], fun i f hi => ?_⟩
      cases i with
      | zero => cases hi; exact ⟨v, rfl, h.1⟩
      | succ i => obtain ⟨u, a, b⟩ := h2 i f (by simpa using hi); exact ⟨u, by simpa using a, b⟩
def fcells : List Fld → List Value → List Value
  | f :: r, v :: vs => fldV f v ++ fcells r vs
  | _, _ => []
theorem fcells_at : ∀ {fs : List Fld} {vs : List Value} (i : Nat) (f : Fld) (v : Value), fs[i]? = some f → vs[i]? = some v → ((fcells fs vs).drop (i * 8)).take 8 = fldV f v := by
  intro fs
  induction fs with
  | nil => intro vs i f v h; simp at h
  | cons g r ih =>
    intro vs i f v hf hv
    cases vs with
    | nil => simp at hv
    | cons u vs =>
      cases i with
      | zero => cases hf; cases hv; rfl
      | succ i =>
        have := ih (vs := vs) i f v (by simpa using hf) (by simpa using hv)
        simp only [fcells]
        rw [List.drop_append, List.drop_eq_nil_of_le (by simp; omega), List.nil_append, show (i + 1) * 8 - (fldV g u).length = i * 8 from by simp; omega]
        exact this
theorem frep_build {w : World} {X : Nat → Prop} {b n : Nat} {t : TypeId} {cur : Array Value} {fs : List Fld} {vs : List Value} (hb : ¬ X b) (h : w.heap[b]? = some (.cells cur t (0, 0))) (hc : cur.toList = fcells fs vs) (hn : fs.length = n) (hs : AllSub w X fs vs) :
    FRep w X (.slice (some ⟨b, 0, none⟩) n n) fs := by
  obtain ⟨h1, h2⟩ := hs.at
  have hsub : ∀ (i : Nat) (f : Fld), fs[i]? = some f → vs[i]? = some (vs.getD i undef) ∧ FRep w X (vs.getD i undef) f.sub := by
    intro i f hi
    obtain ⟨v, hv, hr⟩ := h2 i f hi
    have : vs.getD i undef = v := by simp [List.getD_eq_getElem?_getD, hv]
    rw [this]
    exact ⟨hv, hr⟩
  refine .arr b n n t cur fs hb h hn (fun i => vs.getD i undef) (fun i f hi => ?_) (fun i f hi => (hsub i f hi).2)
  rw [hc]
  exact fcells_at i f _ hi (hsub i f hi).1

/-- What a new message says is within all bounds, and has no tags. -/
theorem tok_default : ∀ (d : Nat) (fs : List Fld), fsB d fs = true → TOk (fun l => l = []) (sDefault d fs) ∧ (sDefault d fs).L.length ≤ lim := by
  intro d
  induction d with
  | zero => intro fs h; cases h
  | succ d ih =>
    intro fs h
    have hl : fs.length ≤ lim := by have := (fsB_tags h).2; rw [lim_eq]; omega
    refine ⟨.mk _ _ _ _ _ (by rw [lim_eq]; simp) (by simpa using hl) rfl ?_, by simpa [sDefault, Tree.L] using hl⟩
    intro x hx
    obtain ⟨f, hf, rfl⟩ := List.mem_map.1 hx
    have h1 := ih f.sub (fsB_sub h hf)
    generalize sDefault d f.sub = T at h1 ⊢
    refine .mk _ _ _ _ _ (by rw [lim_eq]; simp) ?_ rfl ?_
    · split
      · exact h1.2
      · rw [lim_eq]; simp
    · intro y hy
      split at hy
      · revert hy
        cases h1.1 with
        | mk N S nl L U _ _ _ hL => exact fun hy => hL y hy
      · simp at hy
end Go.Proofs.Eng
namespace Go.Proofs.YtbcfmhgcpijfnaaDoor
open Go Go.RowKit Go.WideShapes Go.ChangeShapes
section
variable {H : Type} {enc : TypeId × Value → H} {P : Program}
theorem post_of_below {f : Func} {s : ChangeSpec} {apart fresh handsOn again : Bool} {W W' : World} {args : Array Value} {v : Value} {ds gs : List (DataW H)} {before pa pv : List MemPlace}
    (hW : DataW.Whole enc P f.params.toList s.vars apart W args.toList ds gs before)
    (hres : ∀ (b : Nat) (sp : Nat → Bool) (hd : Bool), DataW.TrodAll enc P W' b sp hd f.resultTypes.toList (v.resultList f.resultTypes.size) (s.fn H (ds ++ gs)).results [])
    (hargs : ∀ sp : Nat → Bool, (∀ p ∈ before, sp p.block = true) → DataW.TrodAll enc P W' 0 sp true f.params.toList args.toList (s.fn H (ds ++ gs)).args pa)
    (hvars : ∀ sp : Nat → Bool, (∀ p ∈ before, sp p.block = true) → DataW.TrodVars enc P W' sp s.vars (s.fn H (ds ++ gs)).vars pv)
    (hps : before = pa ++ pv) (hb : Below W.heap.size W W')
    (hok : ∀ (j : Nat) (t : TypeId) (r : Value), f.resultTypes[j]? = some t → (v.resultList f.resultTypes.size)[j]? = some r → Value.okWide P W' .any 0 t r) :
    s.post enc P f apart fresh handsOn again W args v W' := by
  have hlt : ∀ p ∈ before, p.block < W.heap.size := fun p hp => hW.lt p hp
  have hold : ∀ p ∈ before, (fun b => decide (b < W.heap.size)) p.block = true := fun p hp => by simpa using hlt p hp
  refine ⟨ds, gs, before, [], pa, pv, hW, hres _ _ _, hargs _ hold, hvars _ hold, World.keptBut_mono (fun p hp => ⟨hp, ?_⟩) (hb.frame (· ∈ before)), fun _ => ?_⟩
  · rw [hps, List.mem_append] at hp
    exact Or.inr hp
  · obtain ⟨_, _, _, _, _, hz, hn⟩ := hW
    refine ⟨hok, _, _, ([] ++ pa) ++ pv, ⟨[] ++ pa, pv, trodAll_append (hargs _ (fun _ _ => rfl)) (hres _ _ _), hvars _ (fun _ _ => rfl), rfl, ?_, ?_⟩, ?_⟩
    · intro b off hp
      have hin : MemPlace.cell b off ∈ before := by rw [hps]; simpa using hp
      rw [hb.frozen (hlt _ hin)]
      exact hz b off hin
    · intro ha
      have := hn ha
      rw [hps] at this
      simpa using this
    · intro p hp _
      rw [hps]
      simpa using hp
end
end Go.Proofs.YtbcfmhgcpijfnaaDoor
