/-
  What is read fits the kinds of the cells; a schema out of two plans; what reads and writes again.
-/
import Derived.Test.YtbcfmhgcpijfnaaDoorPR
import Derived.Test.YtbcfmhgcpijfnaaDoorPX
set_option linter.unusedVariables false
set_option linter.unusedSimpArgs false
namespace Go.Proofs.Eng
open Go Go.RowKit

/-! ## kinds -/
def conf1 : K → CV → Bool
  | .int k, .int k' n => ikeq k k' && decide (k.wrap n = n)
  | .bool, .bool _ => true
  | .flt, .flt b => Nat.blt b 18446744073709551616
  | .str, .str _ => true
  | .pstr, .pstr _ => true
  | .bytes, .bytes _ => true
  | .tags _, .tags [] => true
  | .arr _, .arr _ 0 [] => true
  | _, _ => false
theorem conf1_ok {k : K} {c : CV} (h : conf1 k c = true) : Conf k c := by
  unfold conf1 at h
  split at h
  · simp only [Bool.and_eq_true, decide_eq_true_eq] at h
    cases ikeq_eq h.1
    exact .int _ _ h.2
  · exact .bool _
  · exact .flt _ (by simpa [Nat.blt_eq] using h)
  · exact .str _
  · exact .pstr _
  · exact .bytes _
  · exact .tags _ _ (by simp) (by simp) (by simp) (fun _ => rfl)
  · exact .arr _ _ _ _ (by simp) (fun _ => rfl) (by decide) (fun i c kk h => by simp at h)
  · cases h
def confB : List K → List CV → Bool
  | [], [] => true
  | k :: ks, c :: cs => conf1 k c && confB ks cs
  | _, _ => false
theorem confL_nil : ConfL [] [] := ⟨rfl, fun i c kk h => by simp at h⟩
theorem confL_cons {k : K} {ks : List K} {c : CV} {cs : List CV} (h : Conf k c) (h' : ConfL ks cs) : ConfL (k :: ks) (c :: cs) := by
  refine ⟨by simp [h'.1], fun i c' kk h1 h2 => ?_⟩
  cases i with
  | zero => cases h1; cases h2; exact h
  | succ i => exact h'.2 i c' kk (by simpa using h1) (by simpa using h2)
theorem confB_ok : ∀ {ks : List K} {cs : List CV}, confB ks cs = true → ConfL ks cs := by
  intro ks
  induction ks with
  | nil => intro cs h; cases cs with
    | nil => exact confL_nil
    | cons _ _ => simp [confB] at h
  | cons k r ih => intro cs h; cases cs with
    | nil => simp [confB] at h
    | cons c cs =>
      simp only [confB, Bool.and_eq_true] at h
      exact confL_cons (conf1_ok h.1) (ih h.2)
/-- The cells of known tags are as they were made: a test. -/
def kokB : Sch → List CV → Bool
  | .nil, _ => true
  | .prim _ _ k, cur => kokB k cur
  | .tags _ k, cur => kokB k cur
  | .arr _ _ _ _ d body k, cur => kokB body d && kokB k cur
  | .ktag o d S _ k, cur => cvsEq0 ((cur.drop o).take d.length) d && kokB S d && kokB k cur
theorem kokB_ok : ∀ {S : Sch} {cur : List CV}, kokB S cur = true → KOk S cur := by
  intro S
  induction S with
  | nil => intro cur _; trivial
  | prim p o k ih => intro cur h; exact ih h
  | tags o k ih => intro cur h; exact ih h
  | arr c nul wl o d body k ihb ihk =>
    intro cur h
    simp only [kokB, Bool.and_eq_true] at h
    exact ⟨ihb h.1, ihk h.2⟩
  | ktag o d S ot k ihS ihk =>
    intro cur h
    simp only [kokB, Bool.and_eq_true] at h
    exact ⟨⟨cvsEq0_ok h.1.1, ihS h.1.2⟩, ihk h.2⟩
/-- The schema fits the kinds. -/
def SK : Sch → List K → Bool
  | .nil, _ => true
  | .prim p o k, ks => okP p ((ks.drop o).take (pw p)) && SK k ks
  | .tags o k, ks => (match ks[o]? with | some (.tags false) => true | _ => false) && SK k ks
  | .arr _ _ _ o d body k, ks => (match ks[o]? with | some (.arr sh) => confB sh d && SK body sh | _ => false) && SK k ks
  | .ktag o d S ot k, ks => (match ks[ot]? with | some (.tags false) => true | _ => false) && confB ((ks.drop o).take d.length) d && SK S ((ks.drop o).take d.length) && SK k ks
theorem one_kind {ks : List K} {k : K} {v : List CV} {c : CV} (hk : ks = [k]) (hv : v = [c]) (h : Conf k c) : ConfL ks v := by
  subst hk
  subst hv
  exact confL_cons h confL_nil
theorem u8_kind : ∀ {ks : List K} {l : List UInt8}, ks.all (fun k => match k with | .int .u8 => true | _ => false) = true → l.length = ks.length → ConfL ks (l.map fun x => .int .u8 x.toNat) := by
  intro ks
  induction ks with
  | nil => intro l _ hl; obtain rfl : l = [] := List.length_eq_zero_iff.1 hl; exact confL_nil
  | cons k r ih =>
    intro l h hl
    cases l with
    | nil => simp at hl
    | cons x l =>
      simp only [List.all_cons, Bool.and_eq_true] at h
      have h1 := h.1
      split at h1
      · refine confL_cons (.int _ _ ?_) (ih h.2 (by simpa using hl))
        have := x.toNat_lt
        simp [IntKind.wrap, IntKind.bits, IntKind.signed]
        omega
      · cases h1
theorem okP_conf {p : WPrim} {ks : List K} {v : List CV} (h : okP p ks = true) (hv : OkP p v) : ConfL ks v := by
  cases p with
  | uuid =>
    obtain ⟨l, hl, rfl⟩ := hv
    simp only [okP, Bool.and_eq_true, beq_iff_eq] at h
    exact u8_kind h.2 (by omega)
  | bool =>
    obtain ⟨b, rfl⟩ := hv
    have hk : ks = [.bool] := by
      unfold okP at h
      split at h <;> simp_all
    exact one_kind hk rfl (.bool _)
  | f64 =>
    obtain ⟨b, hb, rfl⟩ := hv
    have hk : ks = [.flt] := by
      unfold okP at h
      split at h <;> simp_all
    exact one_kind hk rfl (.flt _ hb)
  | i8 =>
    obtain ⟨n, hn, rfl⟩ := hv
    have hk : ks = [.int .i8] := by
      unfold okP at h
      split at h <;> simp_all
    exact one_kind hk rfl (.int _ _ hn)
  | i16 =>
    obtain ⟨n, hn, rfl⟩ := hv
    have hk : ks = [.int .i16] := by
      unfold okP at h
      split at h <;> simp_all
    exact one_kind hk rfl (.int _ _ hn)
  | u16 =>
    obtain ⟨n, hn, rfl⟩ := hv
    have hk : ks = [.int .u16] := by
      unfold okP at h
      split at h <;> simp_all
    exact one_kind hk rfl (.int _ _ hn)
  | i32 =>
    obtain ⟨n, hn, rfl⟩ := hv
    have hk : ks = [.int .i32] := by
      unfold okP at h
      split at h <;> simp_all
    exact one_kind hk rfl (.int _ _ hn)
  | i64 =>
    obtain ⟨n, hn, rfl⟩ := hv
    have hk : ks = [.int .i64] := by
      unfold okP at h
      split at h <;> simp_all
    exact one_kind hk rfl (.int _ _ hn)
  | str =>
    obtain ⟨n, hn, rfl⟩ := hv
    have hk : ks = [.str] := by
      unfold okP at h
      split at h <;> simp_all
    exact one_kind hk rfl (.str _)
  | cstr =>
    obtain ⟨n, hn, rfl⟩ := hv
    have hk : ks = [.str] := by
      unfold okP at h
      split at h <;> simp_all
    exact one_kind hk rfl (.str _)
  | nstr =>
    obtain ⟨n, hn, rfl⟩ := hv
    have hk : ks = [.pstr] := by
      unfold okP at h
      split at h <;> simp_all
    exact one_kind hk rfl (.pstr _)
  | cnstr =>
    obtain ⟨n, hn, rfl⟩ := hv
    have hk : ks = [.pstr] := by
      unfold okP at h
      split at h <;> simp_all
    exact one_kind hk rfl (.pstr _)
  | byt =>
    obtain ⟨n, hn, rfl⟩ := hv
    have hk : ks = [.bytes] := by
      unfold okP at h
      split at h <;> simp_all
    exact one_kind hk rfl (.bytes _)
  | cbyt =>
    obtain ⟨n, hn, rfl⟩ := hv
    have hk : ks = [.bytes] := by
      unfold okP at h
      split at h <;> simp_all
    exact one_kind hk rfl (.bytes _)
  | nbyt =>
    obtain ⟨n, hn, rfl⟩ := hv
    have hk : ks = [.bytes] := by
      unfold okP at h
      split at h <;> simp_all
    exact one_kind hk rfl (.bytes _)
  | cnbyt =>
    obtain ⟨n, hn, rfl⟩ := hv
    have hk : ks = [.bytes] := by
      unfold okP at h
      split at h <;> simp_all
    exact one_kind hk rfl (.bytes _)
theorem confL_set {ks : List K} {cur v : List CV} {o : Nat} (hc : ConfL ks cur) (hv : ConfL ((ks.drop o).take v.length) v) (ho : o + v.length ≤ ks.length) : ConfL ks (setAt cur o v) := by
  have hl := hc.1
  refine ⟨by rw [setAt_length (by omega)]; exact hl, fun i c kk h1 h2 => ?_⟩
  unfold setAt at h1
  by_cases hi : i < o
  · rw [List.getElem?_append_left (by simp; omega), List.getElem?_take_of_lt hi] at h1
    exact hc.2 i c kk h1 h2
  · rw [List.getElem?_append_right (by simp; omega)] at h1
    rw [show i - (cur.take o).length = i - o by simp; omega] at h1
    by_cases hi2 : i - o < v.length
    · rw [List.getElem?_append_left hi2] at h1
      refine hv.2 (i - o) c kk h1 ?_
      rw [List.getElem?_take_of_lt hi2, List.getElem?_drop, show o + (i - o) = i by omega]
      exact h2
    · rw [List.getElem?_append_right (by omega), List.getElem?_drop, show o + v.length + (i - o - v.length) = i by omega] at h1
      exact hc.2 i c kk h1 h2
theorem one_drop {ks : List K} {o : Nat} {k : K} (h : ks[o]? = some k) : (ks.drop o).take 1 = [k] := by
  rw [List.take_one, List.head?_drop, h]
  rfl
theorem rws_conf {R : List UInt8 → List CV → Prop} {sh : List K} (hR : ∀ b e, R b e → ConfL sh e) : ∀ (n : Nat) (b : List UInt8) (es : List CV), RWs R n b es → es.length = n * sh.length ∧ ∀ (i : Nat) (c : CV) (kk : K), es[i]? = some c → sh[i % sh.length]? = some kk → Conf kk c := by
  intro n
  induction n with
  | zero => rintro b es ⟨_, rfl⟩; exact ⟨by simp, fun i c kk h => by simp at h⟩
  | succ n ih =>
    rintro b es ⟨b1, e1, b2, es2, h1, _, rfl, h2⟩
    obtain ⟨i1, i2⟩ := ih b2 es2 h2
    have hc := hR b1 e1 h1
    refine ⟨by rw [List.length_append, hc.1, i1, Nat.succ_mul]; omega, fun i c kk h h' => ?_⟩
    by_cases hi : i < e1.length
    · rw [List.getElem?_append_left hi] at h
      rw [Nat.mod_eq_of_lt (by rw [← hc.1]; exact hi)] at h'
      exact hc.2 i c kk h h'
    · rw [List.getElem?_append_right (by omega)] at h
      refine i2 (i - e1.length) c kk h ?_
      rw [hc.1]
      rw [hc.1] at hi
      rw [← Nat.sub_add_cancel (Nat.le_of_not_lt hi), Nat.add_mod_right] at h'
      exact h'
theorem nlOk_zero {nul : Nat} {nl : Bool} {n : Nat} (h : nlOk nul nl n) : nl = true → n = 0 := by
  intro hn
  match nul, h with
  | 0, h => simp only [nlOk] at h; rw [hn] at h; exact of_decide_eq_true h.symm
  | 1, h => exact h hn
  | _ + 2, h => simp only [nlOk] at h; rw [hn] at h; cases h
theorem conf_of_RW : ∀ (S : Sch) (ks : List K) (lo : Nat) (cur : List CV) (b : List UInt8) (out : List CV), SK S ks = true → SOk S lo ks.length = true → ConfL ks cur → RW S cur b out → ConfL ks out := by
  intro S
  induction S with
  | nil => rintro ks lo cur b out _ _ hc ⟨_, rfl⟩; exact hc
  | prim p o k ih =>
    rintro ks lo cur b out hk hs hc ⟨v, b', hv, _, hr⟩
    simp only [SK, SOk, Bool.and_eq_true] at hk hs
    have hlen := okP_len hv
    exact ih ks _ _ b' out hk.2 hs.2 (confL_set hc (by rw [hlen]; exact okP_conf hk.1 hv) (by rw [hlen]; exact Nat.le_of_ble_eq_true hs.1.1.2)) hr
  | tags o k ih =>
    rintro ks lo cur b out hk hs hc ⟨l, b', ⟨t1, t2, t3⟩, _, hr⟩
    simp only [SK, SOk, Bool.and_eq_true, Nat.blt_eq] at hk hs
    obtain ⟨hk1, hk2⟩ := hk
    split at hk1
    · rename_i he
      refine ih ks _ _ b' out hk2 hs.2 (confL_set hc ?_ (by simp only [List.length_singleton]; omega)) hr
      rw [List.length_singleton, one_drop he]
      exact one_kind rfl rfl (.tags _ _ t1 (fun t ht => (t2 t ht).1) t3 (fun h => by cases h))
    · cases hk1
  | arr c nul wl o d body k ihb ihk =>
    rintro ks lo cur b out hk hs hc ⟨nl, n, bs, es, b', hnl, hn, hrs, _, hr⟩
    simp only [SK, SOk, Bool.and_eq_true, Nat.blt_eq] at hk hs
    obtain ⟨hk1, hk2⟩ := hk
    split at hk1
    · rename_i sh he
      simp only [Bool.and_eq_true] at hk1
      obtain ⟨⟨⟨⟨⟨⟨h1, h2⟩, h3⟩, h4⟩, h5⟩, ha⟩, h6⟩ := hs
      have hd := confB_ok hk1.1
      refine ihk ks _ _ b' out hk2 h6 (confL_set hc ?_ (by simp only [List.length_singleton]; omega)) hr
      rw [List.length_singleton, one_drop he]
      obtain ⟨j1, j2⟩ := rws_conf (sh := sh) (fun b e h => ihb sh 0 d b e hk1.2 (by rw [← hd.1]; exact h5) hd h) n bs es hrs
      exact one_kind rfl rfl (.arr _ _ _ _ j1 (nlOk_zero hnl) (by omega) j2)
    · cases hk1
  | ktag o d S ot k ihS ihk =>
    rintro ks lo cur b out hk hs hc ⟨v, l, bt, b', hd, hvl, hz, hp, ⟨t1, t2, t3⟩, hnz, _, hr⟩
    simp only [SK, SOk, Bool.and_eq_true, Nat.ble_eq, Nat.blt_eq] at hk hs
    obtain ⟨⟨⟨hk1, hk2⟩, hk3⟩, hk4⟩ := hk
    obtain ⟨⟨⟨⟨⟨⟨⟨h1, h2⟩, h3⟩, h4⟩, h5⟩, h6⟩, h7⟩, h8⟩ := hs
    split at hk1
    · rename_i he
      have hcd := confB_ok hk2
      have hwl : ((ks.drop o).take d.length).length = d.length := hcd.1.symm
      have hcv : ConfL ((ks.drop o).take d.length) v := by
        cases hpv : present v with
        | false => rw [(hz hpv).1]; exact hcd
        | true => exact ihS _ 0 d bt v hk3 (by rw [hwl]; exact h5) hcd (hp hpv).1
      refine ihk ks _ _ b' out hk4 h8 (confL_set (confL_set hc (by rw [hvl]; exact hcv) (by omega)) ?_ (by simp only [List.length_singleton]; omega)) hr
      rw [List.length_singleton, one_drop he]
      exact one_kind rfl rfl (.tags _ _ t1 (fun t ht => (t2 t ht).1) t3 (fun h => by cases h))
    · cases hk1
theorem SOk.lo {S : Sch} {lo lo' len : Nat} (h : SOk S lo len = true) (hl : lo' ≤ lo) : SOk S lo' len = true := by
  cases S with
  | nil => rfl
  | prim p o k =>
    simp only [SOk, Bool.and_eq_true, Nat.ble_eq] at h ⊢
    exact ⟨⟨⟨Nat.le_trans hl h.1.1.1, h.1.1.2⟩, h.1.2⟩, h.2⟩
  | tags o k =>
    simp only [SOk, Bool.and_eq_true, Nat.ble_eq] at h ⊢
    exact ⟨⟨⟨Nat.le_trans hl h.1.1.1, h.1.1.2⟩, h.1.2⟩, h.2⟩
  | arr c nul wl o d body k =>
    simp only [SOk, Bool.and_eq_true, Nat.ble_eq] at h ⊢
    obtain ⟨⟨⟨⟨⟨⟨h1, h2⟩, h3⟩, h4⟩, h5⟩, ha⟩, h6⟩ := h
    exact ⟨⟨⟨⟨⟨⟨Nat.le_trans hl h1, h2⟩, h3⟩, h4⟩, h5⟩, ha⟩, h6⟩
  | ktag o d S ot k =>
    simp only [SOk, Bool.and_eq_true, Nat.ble_eq] at h ⊢
    obtain ⟨⟨⟨⟨⟨⟨⟨h1, h2⟩, h3⟩, h4⟩, h5⟩, h6⟩, h7⟩, h8⟩ := h
    exact ⟨⟨⟨⟨⟨⟨⟨h1, Nat.le_trans hl h2⟩, h3⟩, h4⟩, h5⟩, h6⟩, h7⟩, h8⟩

/-! ## a schema out of two plans -/
def mkS : Nat → List CV → WP → RP → Option Sch
  | 0, _, _, _ => none
  | _ + 1, _, .nil, .nil => some .nil
  | f + 1, d, .prim p o k, .prim _ _ k' => match mkS f d k k' with
    | some S => some (.prim p o S)
    | none => none
  | f + 1, d, .tagn o (.tage _ k), .tags _ k' => match mkS f d k k' with
    | some S => some (.tags o S)
    | none => none
  | f + 1, d, .alen wl o (.loop _ _ b k), .arr c nul _ d' b' k' => match mkS f d' b b', mkS f d k k' with
    | some B, some S => some (.arr c nul wl o d' B S)
    | _, _ => none
  | f + 1, d, .ktag o w b ot k, .ktag _ _ b' _ k' => match mkS f ((d.drop o).take w) b b', mkS f d k k' with
    | some B, some S => some (.ktag o ((d.drop o).take w) B ot S)
    | _, _ => none
  | _ + 1, _, _, _ => none
/-- What a message's two functions do at one version: the schema, if all fits. -/
def verS (T : Tab) (R : TabR) (tR n : Nat) (fR fW : Func) (rW : Nat) (ks : List K) (dv : List Value) (kn : List (Option Value)) : Option Sch := match readB T R tR n fR dv, fW.body, cvs0 ks dv with
  | some rp, some c, some cs => match execW T kn fW.ntmps n (some rW) [ks] [(0, .ptr 0 0), (1, .dst)] [.code c] with
    | some wp => match mkS n cs wp rp with
      | some S => if SOk S 1 ks.length && SK S ks && rpEq rp (rOf S) && wpEq wp (wOf S) && Nat.beq dv.length ks.length && kokB S cs && apart 0 1 (resv S) then some S else none
      | none => none
    | none => none
  | _, _, _ => none
structure VerOK (T : Tab) (R : TabR) (tR n : Nat) (fR fW : Func) (rW : Nat) (ks : List K) (dv : List Value) (kn : List (Option Value)) (S : Sch) : Prop where
  rd : readB T R tR n fR dv = some (rOf S)
  body : ∃ c, fW.body = some c ∧ execW T kn fW.ntmps n (some rW) [ks] [(0, .ptr 0 0), (1, .dst)] [.code c] = some (wOf S)
  ok : SOk S 1 ks.length = true
  kinds : SK S ks = true
  len : dv.length = ks.length
  kok : ∀ cs, cvs0 ks dv = some cs → KOk S cs
  ap : apart 0 1 (resv S) = true
theorem verS_ok {T : Tab} {R : TabR} {tR n : Nat} {fR fW : Func} {rW : Nat} {ks : List K} {dv : List Value} {kn : List (Option Value)} {S : Sch} (h : verS T R tR n fR fW rW ks dv kn = some S) : VerOK T R tR n fR fW rW ks dv kn S := by
  unfold verS at h
  split at h
  · rename_i rp c cs h1 h2 hcs
    split at h
    · rename_i wp h3
      split at h
      · rename_i S' h4
        split at h
        · rename_i hc
          cases h
          simp only [Bool.and_eq_true, Nat.beq_eq] at hc
          obtain ⟨⟨⟨⟨⟨⟨c1, c2⟩, c3⟩, c4⟩, c5⟩, c6⟩, c7⟩ := hc
          exact ⟨by rw [h1, rpEq_ok c3], ⟨c, h2, by rw [h3, wpEq_ok c4]⟩, c1, c2, c5, fun cs' h' => by rw [hcs] at h'; cases h'; exact kokB_ok c6, c7⟩
        · cases h
      · cases h
    · cases h
  · cases h

/-! ## read, and written again -/
def srcO (l : List UInt8) : Option (List UInt8) := match l with
  | [] => none
  | _ :: _ => some l
def againR (S : Sch) (d : List CV) (src : List UInt8) : Option (List UInt8) := match runR (rOf S) d ⟨srcO src, false⟩ with
  | some (out, s') => if s'.bad then none else some (runW (wOf S) out)
  | none => none
theorem srcO_rest (l : List UInt8) : (RS.mk (srcO l) false).rest = l := by cases l <;> rfl
theorem RW_nil {S : Sch} {cur out : List CV} (h : RW S cur [] out) : S = .nil ∧ out = cur := by
  cases S with
  | nil => exact ⟨rfl, h.2⟩
  | prim p o k =>
    obtain ⟨v, b', h1, h2, _⟩ := h
    have h3 := wprim_pos h1
    have h4 := congrArg List.length h2
    simp only [List.length_nil, List.length_append] at h4
    omega
  | tags o k =>
    obtain ⟨l, b', _, h2, _⟩ := h
    have h3 := uv_pos1 l.length
    have h4 := congrArg List.length h2
    simp only [List.length_nil, List.length_append] at h4
    omega
  | arr c nul wl o d body k =>
    obtain ⟨nl, n, bs, es, b', _, _, _, h2, _⟩ := h
    have h3 : 1 ≤ (wlen wl nl n).length := by
      cases wl <;> cases nl <;> simp only [wlen] <;> first | exact uv_pos1 _ | (simp [be_length])
    have h4 := congrArg List.length h2
    simp only [List.length_nil, List.length_append] at h4
    omega
  | ktag o d S ot k =>
    obtain ⟨v, l, bt, b', _, _, _, _, _, _, h2, _⟩ := h
    have h3 := uv_pos1 (ktl (present v) bt l).length
    have h4 := congrArg List.length h2
    simp only [List.length_nil, List.length_append] at h4
    omega
theorem rd_again {S : Sch} {len : Nat} {d : List CV} {b : List UInt8} {out : List CV} (hS : SOk S 0 len = true) (h : RW S d b out) : ∃ s', runR (rOf S) d ⟨srcO b, false⟩ = some (out, s') ∧ s'.bad = false := by
  cases b with
  | nil =>
    obtain ⟨rfl, rfl⟩ := RW_nil h
    exact ⟨_, rfl, rfl⟩
  | cons x r =>
    have := rd_of_wr S 0 len d (x :: r) out [] hS h
    rw [List.append_nil] at this
    exact ⟨_, this, rfl⟩
/-- What is read of any bytes is written as bytes that are read again, and written as the same. -/
theorem any_ok {S : Sch} {d : List CV} {src a : List UInt8} (hS : SOk S 0 d.length = true) (hK : KOk S d) (h : againR S d src = some a) (hl : src.length < 130000000) : againR S d a = some a ∧ a.length ≤ 32 * src.length := by
  unfold againR at h
  split at h
  · rename_i out s' h1
    split at h
    · cases h
    · rename_i hb
      cases h
      have hb : s'.bad = false := by simpa using hb
      have hl' : (RS.mk (srcO src) false).rest.length < 130000000 := by rw [srcO_rest]; exact hl
      obtain ⟨b, h2, h3⟩ := wb_of_rd S 0 d.length d _ out s' hS hK rfl h1 hb hl'
      have h4 := (runW_of S 0 d.length d b out hS rfl h2).2.2
      obtain ⟨s2, h5, h6⟩ := rd_again hS h2
      rw [h4]
      rw [srcO_rest] at h3
      refine ⟨?_, by omega⟩
      unfold againR
      rw [h5]
      simp only [h6, Bool.false_eq_true, if_false, h4]
  · cases h
/-- What is written by the schema is read, and written back. -/
theorem again_ok {S : Sch} {d : List CV} {b : List UInt8} {out : List CV} (hS : SOk S 0 d.length = true) (h : RW S d b out) : againR S d b = some b := by
  obtain ⟨s2, h5, h6⟩ := rd_again hS h
  unfold againR
  rw [h5]
  simp only [h6, Bool.false_eq_true, if_false, (runW_of S 0 d.length d b out hS rfl h).2.2]
end Go.Proofs.Eng
namespace Go.Proofs.Eng
open Go Go.RowKit
/-! ## the elements of slices: a test -/
def veq0 : Value → Value → Bool
  | .int k n, .int k' n' => ikeq k k' && decide (n = n')
  | .bool b, .bool b' => b == b'
  | .float .f64 b, .float .f64 b' => Nat.beq b b'
  | .string s, .string s' => s.data.toList == s'.data.toList
  | .pointer none, .pointer none => true
  | .slice none 0 0, .slice none 0 0 => true
  | .map none, .map none => true
  | _, _ => false
theorem veq0_ok {a b : Value} (h : veq0 a b = true) : a = b := by
  unfold veq0 at h
  split at h
  · simp only [Bool.and_eq_true, decide_eq_true_eq] at h
    rw [ikeq_eq h.1, h.2]
  · simpa using h
  · simpa [Nat.beq_eq] using h
  · rename_i s s'
    have h2 : s.data.toList = s'.data.toList := by simpa using h
    obtain ⟨a⟩ := s
    obtain ⟨b⟩ := s'
    have h3 : a = b := Array.toList_inj.1 h2
    rw [h3]
  · rfl
  · rfl
  · rfl
  · cases h
def vseq0 : List Value → List Value → Bool
  | [], [] => true
  | a :: r, b :: s => veq0 a b && vseq0 r s
  | _, _ => false
theorem vseq0_ok : ∀ {a b : List Value}, vseq0 a b = true → a = b := by
  intro a
  induction a with
  | nil => intro b h; cases b <;> simp_all [vseq0]
  | cons x r ih =>
    intro b h
    cases b with
    | nil => simp [vseq0] at h
    | cons y s =>
      simp only [vseq0, Bool.and_eq_true] at h
      rw [veq0_ok h.1, ih h.2]
def elB (P : Program) (x : Nat × (List K × List Value)) : Bool := match P.underlying x.1 with
  | some (.slice e) => match P.info? e with
    | some i => match i.zero with
      | some z => vseq0 z.cells.toList x.2.2 && Nat.beq i.size x.2.2.length && Nat.blt 0 x.2.2.length && Nat.ble i.bytes 65536
      | none => false
    | none => false
  | _ => false
theorem elB_ok {P : Program} {els : List (Nat × (List K × List Value))} (h : allB (elB P) els = true) : ∀ t ks zs, (t, (ks, zs)) ∈ els → ∃ e i z, P.underlying t = some (.slice e) ∧ P.info? e = some i ∧ i.zero = some z ∧ z.cells = zs.toArray ∧ i.size = zs.length ∧ 0 < zs.length ∧ i.bytes ≤ 65536 := by
  intro t ks zs hm
  have h1 := allB_mem h _ hm
  unfold elB at h1
  split at h1
  · rename_i e he
    split at h1
    · rename_i i hi
      split at h1
      · rename_i z hz
        simp only [Bool.and_eq_true, Nat.beq_eq, Nat.blt_eq, Nat.ble_eq] at h1
        obtain ⟨⟨⟨a1, a2⟩, a3⟩, a4⟩ := h1
        exact ⟨e, i, z, he, hi, hz, by rw [← vseq0_ok a1], a2, a3, a4⟩
      · cases h1
    · cases h1
  · cases h1
end Go.Proofs.Eng
