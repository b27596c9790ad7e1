/-
  The executor of writing, and that it tells the truth.
-/
import Derived.Test.YtfijlaopidgdpaaEngW2
namespace Go.Proofs.Eng
open Go Go.RowKit

def flatC : Code → List Code
  | .seq a b => flatC a ++ flatC b
  | c => [c]

def gd (σ : Sg) (all : Array Oper) : Option (Nat × Bool) → Option Bool
  | none => some true
  | some (j, want) => match all[j]? with
    | some o => match o.dst with
      | some d => match look σ d with
        | some (.cst (.bool b)) => some (b == want)
        | _ => none
      | none => none
    | none => none

def isDst : Option AV → Bool
  | some .dst => true
  | _ => false
def dlt (d : Option Nat) (nT : Nat) : Bool := match d with
  | some d => Nat.blt d nT
  | none => true

def WA.then : WA → WP → WP
  | .lit b, k => .lit b k
  | .prim p o, k => .prim p o k
  | .alen p o, k => .alen p o k
  | .tagn o, k => .tagn o k
  | .tage o, k => .tage o k

/-- What a loop 'for i := range xs' is: the slots of its index, its bound, its test, its sum; its body. -/
structure LoopW where
  i : Nat
  m : Nat
  c : Nat
  s : Nat
  bd : Code

def asLoopW (id : Nat) (b : Code) : Option LoopW :=
  match flatC b with
  | [.region _ o1 false, .cond (.tmp c) .skip (.exit id'), .block _ bd, .region _ o2 false] =>
    match o1.toList, o2.toList with
    | [⟨some c', .binOp .lss _ (.tmp i) (.tmp m) _, _, _, _, none⟩], [⟨some s, .binOp .add _ (.tmp i1) (.const (.int .i64 1)) _, _, _, _, none⟩, ⟨some i2, .move (.tmp s'), _, _, _, none⟩] =>
      if Nat.beq id' id && Nat.beq c' c && Nat.beq i1 i && Nat.beq s' s && Nat.beq i2 i && !Nat.beq c i && !Nat.beq c m && !Nat.beq s i && !Nat.beq s m && !Nat.beq i m
          && !has (wrC bd) i && !has (wrC bd) m && !Nat.beq i 1 && !Nat.beq c 1 && !Nat.beq s 1 then some ⟨i, m, c, s, bd⟩ else none
    | _, _ => none
  | _ => none

def execW (T : Tab) (kn : List (Option Value)) (nT : Nat) : Nat → Option Nat → List (List K) → Sg → List TD → Option WP
  | 0, _, _, _, _ => none
  | _ + 1, res, _, σ, [] => match res with
    | none => if isDst (look σ 1) then some .nil else none
    | some _ => none
  | n + 1, res, shs, σ, .ops _ [] :: k => execW T kn nT n res shs σ k
  | n + 1, res, shs, σ, .ops all (o :: l) :: k =>
    if dlt o.dst nT then
      match gd σ all o.guard with
      | none => none
      | some false => execW T kn nT n res shs (sdel σ o.dst) (.ops all l :: k)
      | some true => match pop T kn shs σ o.op with
        | some x => execW T kn nT n res shs (sput σ o.dst x) (.ops all l :: k)
        | none => match o.op with
          | .call ⟨.value (.func f), args, _⟩ =>
            if Nat.beq f T.fTL then match args.toList with
              | [x] => match av σ x with
                | some (.ptr j o') => match kAt shs j o' with
                  | some (.tags _) => execW T kn nT n res shs (sput σ o.dst (.tagl j o')) (.ops all l :: k)
                  | _ => none
                | _ => none
              | _ => none
            else match callW T shs σ f args.toList, o.dst with
              | some wa, some d => match execW T kn nT n res shs (sput (noDst σ) (some d) .dst) (.ops all l :: k) with
                | some r => some (wa.then r)
                | none => none
              | _, _ => none
          | .alloc t => match o.dst, l, k with
            | some x, [⟨none, .store t1 (.tmp x1) y, _, _, _, none⟩], .code (.region _ ops2 false) :: k' => match ops2.toList with
              | ⟨some p, .move z, _, _, _, none⟩ :: ⟨some q, .load t2 (.tmp x2), _, _, _, none⟩ :: rest =>
                if Nat.beq t1 t && Nat.beq x1 x && Nat.beq t2 t && Nat.beq x2 x && !Nat.beq p x && has T.boxes t && Nat.blt p nT && Nat.blt q nT then
                  match av (sdel σ (some x)) y, av (sdel σ (some x)) z, look T.sizes t with
                  | some (.fld j o' n' true), some az, some (m, _) => if Nat.beq n' m then
                      execW T kn nT n res shs (sput (sput (sdel σ (some x)) (some p) az) (some q) (.fld j o' n' true)) (.ops ops2 rest :: k') else none
                  | _, _, _ => none
                else none
              | _ => none
            | _, _, _ => none
          | _ => none
    else none
  | n + 1, res, shs, σ, .code .skip :: k => execW T kn nT n res shs σ k
  | n + 1, res, shs, σ, .code (.seq x y) :: k => execW T kn nT n res shs σ (.code x :: .code y :: k)
  | n + 1, res, shs, σ, .code (.region _ ops false) :: k => execW T kn nT n res shs σ (.ops ops ops.toList :: k)
  | n + 1, res, shs, σ, .code (.cond c x y) :: k => match av σ c with
    | some (.cst (.bool true)) => execW T kn nT n res shs σ (.code x :: k)
    | some (.cst (.bool false)) => execW T kn nT n res shs σ (.code y :: k)
    | _ => none
  | _ + 1, res, _, σ, .code .ret :: _ => match res with
    | some r => if isDst (look σ r) then some .nil else none
    | none => none
  | n + 1, res, shs, σ, .code (.block id (.loop b)) :: k => match asLoopW id b with
    | none => none
    | some ⟨i, m, c, s, bd⟩ =>
      if Nat.blt i nT && Nat.blt c nT && Nat.blt s nT then
      match look σ i, look σ m with
      | some (.cst (.int .i64 0)), some (.cst (.int .i64 0)) => execW T kn nT n res shs (sdel σ (some c)) k
      | some (.cst (.int .i64 0)), some (.len j o) =>
        if isLast shs j && isDst (look σ 1) then
          match kAt shs j o with
          | some (.arr sh) =>
            let σ0 := (noDst σ).filter fun p => !has (wrC b) p.1
            match execW T kn nT n none (shs ++ [sh]) ((1, .dst) :: (i, .idx j o) :: σ0) [.code bd], execW T kn nT n res shs ((1, .dst) :: σ0) k with
            | some body, some r => some (.loop o sh.length body r)
            | _, _ => none
          | _ => none
        else none
      | _, _ => none
      else none
  | _ + 1, _, _, _, _ => none

/-! ## truth -/
structure Conts (P : Program) (T : Tab) : Prop where
  wf : ∀ f p, (f, p) ∈ T.wf → WContract P T.tB f p ∧ Callable P f
  lf : ∀ f p, (f, p) ∈ T.lf → LContract P T.tB f p ∧ Callable P f
  u : UContract P T.tB T.fU ∧ Callable P T.fU
  tl : TLContract P T.fTL ∧ Callable P T.fTL
  te : TEContract P T.tB T.fTE T.only0 ∧ Callable P T.fTE

section
variable {lvs : List Lv} {d : Value} {σ : Sg} {a : Act}

theorem Gam.sub {σ' : Sg} (h : Gam lvs d σ a) (hs : ∀ p, p ∈ σ' → p ∈ σ) : Gam lvs d σ' a := fun t x hx => h t x (hs _ hx)
theorem Gam.put {nT : Nat} (h : Gam lvs d σ a) (hn : a.tmps.size = nT) {o : Option Nat} (hd : dlt o nT = true) {x : AV} {v : Value} (hv : Den lvs d x v) : Gam lvs d (sput σ o x) (a.put o v) := by
  cases o with
  | none => exact h
  | some e =>
    intro t y hy
    have he : e < a.tmps.size := by rw [hn]; simpa [dlt, Nat.blt_eq] using hd
    simp only [sput, List.mem_cons, Prod.mk.injEq, List.mem_filter] at hy
    rcases hy with ⟨rfl, rfl⟩ | ⟨hm, hne⟩
    · rw [eval_put_same _ _ _ he]; exact hv
    · rw [eval_put_other _ _ _ _ (by intro hte; subst hte; simp at hne)]; exact h t y hm
theorem Gam.del (h : Gam lvs d σ a) {o : Option Nat} {v : Value} : Gam lvs d (sdel σ o) (a.put o v) := by
  cases o with
  | none => exact h
  | some e =>
    intro t y hy
    simp only [sdel, List.mem_filter] at hy
    rw [eval_put_other _ _ _ _ (by intro hte; subst hte; simp at hy)]; exact h t y hy.1
theorem Den.newDst {x : AV} {v d' : Value} (h : Den lvs d x v) (hx : notDst x = true) : Den lvs d' x v := by
  cases x <;> first | exact h | (exact absurd hx (by simp [notDst]))
theorem Gam.noDst {d' : Value} (h : Gam lvs d σ a) : Gam lvs d' (noDst σ) a := by
  intro t y hy
  simp only [Eng.noDst, List.mem_filter] at hy
  exact (h t y hy.1).newDst hy.2
end

theorem dlt_lt {o : Option Nat} {nT e : Nat} (h : dlt o nT = true) (ho : o = some e) : e < nT := by subst ho; simpa [dlt, Nat.blt_eq] using h

theorem gd_true {σ : Sg} {lvs : List Lv} {d : Value} {a : Act} (hG : Gam lvs d σ a) {all : Array Oper} {o : Oper} {b : Bool} (h : gd σ all o.guard = some b) :
    Region.wanted o (yielded all a.tmps) = b := by
  unfold gd at h
  unfold Region.wanted
  split at h
  · rename_i hg; rw [hg]; cases h; rfl
  · rename_i j want hg
    rw [hg]
    simp only
    split at h
    · rename_i oj hj
      split at h
      · rename_i e he
        split at h
        · rename_i c hl
          cases h
          have hden : a.eval (.tmp e) = .bool c := hG e _ (look_mem hl)
          have hy : yielded all a.tmps j = some c := by
            unfold yielded
            simp only [hj, Option.bind_some, he]
            simp only [Act.eval, Array.getD_eq_getD_getElem?] at hden
            cases hq : a.tmps[e]? with
            | none => rw [hq] at hden; simp [undef] at hden
            | some v => rw [hq] at hden; simp only [Option.getD_some] at hden; subst hden; rfl
          rw [hy]
          simp
        · cases h
      · cases h
    · cases h

theorem wpT_flat {P : Program} {Q : Exit → Act → World → Prop} (c : Code) : ∀ {k : List TD} {a : Act} {w : World}, wpT P Q ((flatC c).map .code ++ k) a w → wpT P Q (.code c :: k) a w := by
  induction c with
  | seq x y ihx ihy =>
    intro k a w h
    refine wpT_seq (ihx ?_)
    simp only [flatC, List.map_append, List.append_assoc] at h
    have mono : ∀ (l : List TD) {k1 k2 : List TD}, (∀ a w, wpT P Q k1 a w → wpT P Q k2 a w) → ∀ a w, wpT P Q (l ++ k1) a w → wpT P Q (l ++ k2) a w := by
      intro l
      induction l with
      | nil => intro k1 k2 hk a w h; exact hk a w h
      | cons t l ih =>
        intro k1 k2 hk a w h
        cases t with
        | code c => exact wp_mono h (fun e a w q => by cases e <;> first | exact ih hk a w q | exact q)
        | ops all ll =>
          have hm : ∀ (ll : List Oper) (a : Act) (w : World), wpList P all (Exit.then (wpT P Q (l ++ k1)) Q) ll a w → wpList P all (Exit.then (wpT P Q (l ++ k2)) Q) ll a w := by
            have hq : ∀ e a w, Exit.then (wpT P Q (l ++ k1)) Q e a w → Exit.then (wpT P Q (l ++ k2)) Q e a w := fun e a w q => by cases e <;> first | exact ih hk a w q | exact q
            intro ll
            induction ll with
            | nil => intro a w h; exact hq _ _ _ h
            | cons o ll ihl =>
              intro a w h
              unfold wpList at h ⊢
              split
              · rename_i hw
                rw [if_pos hw] at h
                rcases h with h | ⟨h1, h2⟩
                · left
                  unfold Oper.wp at h ⊢
                  generalize (execOp a.eval o).run P w = r at h ⊢
                  cases r with
                  | ok nx w' =>
                    cases nx <;> simp only [Oper.upon] at h ⊢ <;> first
                      | exact ihl _ _ h
                      | (refine Calls.mono h ?_
                         intro e w'' he
                         cases e <;> first | exact ihl _ _ he | exact hq _ _ _ he | (obtain ⟨a0, w0, h0⟩ := he; exact ⟨a0, w0, hq _ _ _ h0⟩))
                      | (refine Rows.mono h ?_
                         intro e w'' he
                         exact ihl _ _ he)
                      | exact h
                  | halt hh w' =>
                    cases hh <;> simp only [Oper.upon] at h ⊢ <;> first | exact hq _ _ _ h | exact h
                · right
                  obtain ⟨a0, w0, h0⟩ := h2
                  exact ⟨h1, a0, w0, hq _ _ _ h0⟩
              · rename_i hw
                rw [if_neg hw] at h
                exact ihl _ _ h
          exact hm ll a w h
    exact mono ((flatC x).map .code) (fun a w h => ihy h) a w h
  | _ => intro k a w h; exact h
end Go.Proofs.Eng
