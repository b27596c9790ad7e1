/-
  The executor of writing tells the truth: the theorem.
-/
import Derived.Test.YtfijlaopidgdpaaEngW4
namespace Go.Proofs.Eng
open Go Go.RowKit

theorem wprim_take (p : WPrim) (cs : List CV) : wprim p (cs.take (width p)) = wprim p cs := by
  cases p <;> simp only [width] <;> first
    | (cases cs with
       | nil => rfl
       | cons c r => cases c <;> first | rfl | (rename_i o; cases o <;> rfl))
    | (simp only [wprim, List.take_take, Nat.min_self])

theorem okAt_conf {w : World} {base : Nat} {shs : List (List K)} {lvs : List Lv} {kn : List (Option Value)} (hE : Env w base shs lvs kn) {p : WPrim} {j o n : Nat} (h : okAt p shs j o n = true) {L : Lv} (hL : lvs[j]? = some L) :
    ∃ ks, okP p ks = true ∧ (o + n ≤ L.vals.length → ConfL ks ((L.cs.drop o).take n)) ∧ L.vals.length = L.cs.length := by
  unfold okAt at h
  split at h
  · rename_i sh hsh
    have ok := hE.lv j sh L hsh hL
    refine ⟨_, h, fun hle => ⟨?_, ?_⟩, ok.len.trans ok.conf.1.symm⟩
    · simp only [List.length_take, List.length_drop, ok.conf.1]
    · intro i c kk hc hk
      rw [List.getElem?_take] at hc hk
      split at hc
      · rename_i hi
        rw [if_pos hi] at hk
        rw [List.getElem?_drop] at hc hk
        exact ok.conf.2 _ c kk hc hk
      · cases hc
  · cases h

theorem drop_cons {α : Type} {l : List α} {o : Nat} {x : α} (h : l[o]? = some x) : ∃ r, l.drop o = x :: r := by
  have hlt := (List.getElem?_eq_some_iff.1 h)
  obtain ⟨h1, h2⟩ := hlt
  exact ⟨_, by rw [List.drop_eq_getElem_cons h1, h2]⟩

theorem Conf.arr_lt {kk : K} {nl : Bool} {n : Nat} {es : List CV} (h : Conf kk (.arr nl n es)) : n < 2147483648 := by cases h; assumption
theorem lenW_inv {shs : List (List K)} {p : LPrim} {q : Option AV} {wa : WA} (h : lenW shs p q = some wa) :
    plainL p = true ∧ ((∃ j o, q = some (.len j o) ∧ isLast shs j = true ∧ wa = .alen p o) ∨ (q = some (.cst (.int .i64 0)) ∧ wa = .lit (wlen p true 0))) := by
  unfold lenW at h
  split at h
  · split at h
    · rename_i hc
      simp only [Bool.and_eq_true] at hc
      cases h
      exact ⟨hc.1, .inl ⟨_, _, rfl, hc.2, rfl⟩⟩
    · cases h
  · split at h
    · rename_i hc
      cases h
      exact ⟨hc, .inr ⟨rfl, rfl⟩⟩
    · cases h
  · cases h
theorem lenW2_inv {shs : List (List K)} {p : LPrim} {q q' : Option AV} {wa : WA} (h : lenW2 shs p q q' = some wa) :
    plainL p = false ∧ ((∃ j o, q = some (.len j o) ∧ q' = some (.isn j o) ∧ isLast shs j = true ∧ wa = .alen p o) ∨ (∃ b, q = some (.cst (.int .i64 0)) ∧ q' = some (.cst (.bool b)) ∧ wa = .lit (wlen p b 0))) := by
  unfold lenW2 at h
  split at h
  · split at h
    · rename_i hc
      simp only [Bool.and_eq_true, Bool.not_eq_true', Nat.beq_eq] at hc
      obtain ⟨⟨⟨h1, h2⟩, rfl⟩, rfl⟩ := hc
      cases h
      exact ⟨h1, .inl ⟨_, _, rfl, rfl, h2, rfl⟩⟩
    · cases h
  · split at h
    · rename_i hc
      simp only [Bool.not_eq_true'] at hc
      cases h
      exact ⟨hc, .inr ⟨_, rfl, rfl, rfl⟩⟩
    · cases h
  · cases h

theorem repV_one {w : World} {X : Nat → Prop} {b : Bool} {v : Value} {c : CV} (hb : b = false) (h : Rep w X v c) : RepV w X b v [c] := by subst hb; exact ⟨c, rfl, h⟩

theorem okI_eq {p : WPrim} {k k' : IntKind} (h : okP p [.int k'] = true) (hk : okP p [.int k] = true) : k = k' := by
  cases p <;> cases k' <;> simp [okP] at h <;> cases k <;> simp [okP] at hk <;> rfl

theorem kOf_conf {p : WPrim} {v : Value} {c : CV} (h : cvOf p v = some c) : okP p [kOf c] = true ∧ Conf (kOf c) c ∧ ∀ (w : World) (X : Nat → Prop), Rep w X v c := by
  unfold cvOf at h
  split at h
  · rename_i k n
    have key : ∀ q, p = q → (if decide (k.wrap n = n) && okP q [.int k] then some (CV.int k n) else none) = some c → okP p [kOf c] = true ∧ Conf (kOf c) c ∧ ∀ (w : World) (X : Nat → Prop), Rep w X (.int k n) c := by
      intro q hq hh
      subst hq
      split at hh
      · rename_i hc
        simp only [Bool.and_eq_true, decide_eq_true_eq] at hc
        cases hh
        exact ⟨hc.2, .int k n hc.1, fun _ _ => .int k n⟩
      · cases hh
    split at h <;> first | exact key _ rfl h | cases h
  · rename_i b
    split at h
    · cases h; exact ⟨rfl, .bool b, fun _ _ => .bool b⟩
    · cases h
  · rename_i n
    split at h
    · split at h
      · rename_i hc
        cases h
        exact ⟨rfl, .flt n (by have := Nat.le_of_ble_eq_true hc; omega), fun _ _ => .flt n⟩
      · cases h
    · cases h
  · rename_i s
    split at h
    · cases h; exact ⟨rfl, .str _, fun _ _ => .str s⟩
    · cases h; exact ⟨rfl, .str _, fun _ _ => .str s⟩
    · cases h
  · split at h
    · cases h; exact ⟨rfl, .pstr _, fun _ _ => .pnil⟩
    · cases h; exact ⟨rfl, .pstr _, fun _ _ => .pnil⟩
    · cases h
  · split at h
    · cases h; exact ⟨rfl, .bytes _, fun _ _ => .bnil⟩
    · cases h; exact ⟨rfl, .bytes _, fun _ _ => .bnil⟩
    · cases h; exact ⟨rfl, .bytes _, fun _ _ => .bnil⟩
    · cases h; exact ⟨rfl, .bytes _, fun _ _ => .bnil⟩
    · cases h
  · cases h

/-- What a call of the table comes to. -/
theorem callW_ok {P : Program} {T : Tab} (hC : Conts P T) {w : World} {base : Nat} {shs : List (List K)} {lvs : List Lv} {kn : List (Option Value)} (hE : Env w base shs lvs kn) {d : Value} {σ : Sg} {a : Act} (hG : Gam lvs d σ a)
    {f : Nat} {args : Array Operand} {ts : Array TypeId} {o : Oper} (ho : o.op = .call ⟨.value (.func f), args, ts⟩) {wa : WA} (h : callW T shs σ f args.toList = some wa) {L : Lv} (hL : lvs.getLast? = some L)
    {bs : List UInt8} (hown : Own w base T.tB d bs) (hbase : base ≤ w.heap.size) (k : WP) (hsz : bs.length + (runW (wa.then k) L.cs).length ≤ lim) :
    Callable P f ∧ ∃ out, runW (wa.then k) L.cs = out ++ runW k L.cs ∧
      Calls P f (args.map a.eval) w fun e w' => ∃ d', e = .returned d' ∧ Own w' base T.tB d' (bs ++ out) ∧ Below base w w' := by
  have last : ∀ {j : Nat} {M : Lv}, isLast shs j = true → lvs[j]? = some M → M = L := by
    intro j M hj hM
    have hj : j + 1 = shs.length := by simpa [isLast, Nat.beq_eq] using hj
    rw [List.getLast?_eq_getElem?, hE.len, ← hj] at hL
    rw [Nat.add_sub_cancel, hM] at hL
    exact Option.some.inj hL
  have lenle : ∀ out : List UInt8, runW (wa.then k) L.cs = out ++ runW k L.cs → bs.length + out.length ≤ lim := by
    intro out he
    rw [he, List.length_append] at hsz
    omega
  have hargs2 : ∀ {x y : Operand}, args.toList = [x, y] → args.map a.eval = #[a.eval x, a.eval y] := by
    intro x y h
    obtain rfl : args = #[x, y] := Array.toList_inj.1 h
    simp
  have hargs3 : ∀ {x y z : Operand}, args.toList = [x, y, z] → args.map a.eval = #[a.eval x, a.eval y, a.eval z] := by
    intro x y z h
    obtain rfl : args = #[x, y, z] := Array.toList_inj.1 h
    simp
  have arrlt : ∀ {j o' : Nat} {M : Lv} {nl : Bool} {n : Nat} {es : List CV}, lvs[j]? = some M → M.cs[o']? = some (.arr nl n es) → n < 2147483648 := by
    intro j o' M nl n es hM hcc
    have hsh : j < shs.length := by have := (List.getElem?_eq_some_iff.1 hM).1; rw [hE.len] at this; exact this
    have ok := hE.lv j _ M (List.getElem?_eq_getElem hsh) hM
    have ho : o' < (shs[j]).length := by rw [← ok.conf.1]; exact (List.getElem?_eq_some_iff.1 hcc).1
    exact (ok.conf.2 o' _ _ hcc (List.getElem?_eq_getElem ho)).arr_lt
  unfold callW at h
  split at h
  · -- Tags.AppendEach
    rename_i hf
    have hf := Nat.eq_of_beq_eq_true hf
    subst hf
    split at h
    · rename_i x y hxy
      split at h
      · rename_i j o' hx hy
        split at h
        · rename_i hk
          split at h
          · rename_i hl
            simp only [Bool.and_eq_true, Bool.or_eq_true, Bool.not_eq_true'] at hl
            obtain ⟨hl, he0⟩ := hl
            cases h
            obtain ⟨M, hM, hv⟩ := av_ok hG hx
            obtain ⟨M', v, c, hM', hvv, hcc, hrep, hconf, hcell, hlt⟩ := hE.at hk
            rw [hM] at hM'; cases hM'
            obtain rfl := last hl hM
            obtain ⟨l, rfl, h1, h2, h3, h4⟩ := hconf.tags_inv
            have he : runW (WA.then (.tage o') k) M.cs = l.flatMap wtag ++ runW k M.cs := by simp only [WA.then, runW, hcc, wtage]
            refine ⟨hC.te.2, _, he, ?_⟩
            rw [hargs2 hxy, hv, av_ok hG hy]
            exact hC.te.1 w base _ _ d v bs l hown hbase hlt hcell hrep (.tags _ l h1 h2 h3 (fun ho => he0.elim (fun hf => by rw [hf] at ho; cases ho) h4)) (lenle _ he)
          · cases h
        · cases h
      · cases h
    · cases h
  · split at h
    · rename_i x y hxy
      split at h
      · rename_i hx
        split at h
        · -- AppendUvarint
          rename_i hf
          have hf := Nat.eq_of_beq_eq_true hf
          subst hf
          split at h
          · rename_i j o' hy
            split at h
            · rename_i hl
              cases h
              obtain ⟨M, l, hM, hcc, hv, hlt⟩ := av_ok hG hy
              obtain rfl := last hl hM
              have he : runW (WA.then (.tagn o') k) M.cs = uv l.length ++ runW k M.cs := by
                simp only [WA.then, runW, hcc, wtagn, Nat.mod_eq_of_lt hlt]
              refine ⟨hC.u.2, _, he, ?_⟩
              rw [hargs2 hxy, av_ok hG hx, hv]
              have hle := lenle _ he
              refine (hC.u.1 w base d bs l.length hown hbase hlt hle).mono ?_
              rintro e w' ⟨d', rfl, ho', hg'⟩
              exact ⟨d', rfl, ho', hg'⟩
            · cases h
          · rename_i n hy
            split at h
            · rename_i hn
              simp only [Bool.and_eq_true, decide_eq_true_eq] at hn
              cases h
              have he : runW (WA.then (.lit (uv n.toNat)) k) L.cs = uv n.toNat ++ runW k L.cs := rfl
              refine ⟨hC.u.2, _, he, ?_⟩
              have hy' := av_ok hG hy
              obtain ⟨m, rfl⟩ := Int.eq_ofNat_of_zero_le hn.1
              rw [hargs2 hxy, av_ok hG hx, hy']
              refine (hC.u.1 w base d bs m hown hbase (by omega) (lenle _ he)).mono ?_
              rintro e w' ⟨d', rfl, ho', hg'⟩
              exact ⟨d', rfl, ho', hg'⟩
            · cases h
          · cases h
        · split at h
          · -- a value's own function
            rename_i p hp
            obtain ⟨hcon, hcall⟩ := hC.wf f p (look_mem hp)
            have fire : ∀ {v : Value} {ks : List K} {cs : List CV}, a.eval y = v → RepV w (fun b => base ≤ b) (isU p) v cs → okP p ks = true → ConfL ks cs → (runW (wa.then k) L.cs = wprim p cs ++ runW k L.cs) →
                Callable P f ∧ ∃ out, runW (wa.then k) L.cs = out ++ runW k L.cs ∧ Calls P f (args.map a.eval) w fun e w' => ∃ d', e = .returned d' ∧ Own w' base T.tB d' (bs ++ out) ∧ Below base w w' := by
              intro v ks cs hv hr hk hc he
              refine ⟨hcall, _, he, ?_⟩
              rw [hargs2 hxy, av_ok hG hx, hv]
              refine (hcon w base d v bs ks cs hown hr hk hc hbase (lenle _ he)).mono ?_
              rintro e w' ⟨d', rfl, ho', hg'⟩
              exact ⟨d', rfl, ho', hg'⟩
            split at h
            · rename_i j o' n ag hy
              split at h
              · rename_i hc
                simp only [Bool.and_eq_true, Nat.beq_eq, beq_iff_eq] at hc
                obtain ⟨⟨⟨hl, rfl⟩, hok⟩, hagU⟩ := hc
                cases h
                obtain ⟨M, hM, hle, hv⟩ := av_ok hG hy
                obtain rfl := last hl hM
                obtain ⟨ks, h1, h2, h3⟩ := okAt_conf hE hok hM
                have hsh : ∃ sh, shs[j]? = some sh := by
                  unfold okAt at hok
                  split at hok
                  · rename_i sh hsh; exact ⟨sh, hsh⟩
                  · cases hok
                obtain ⟨sh, hsh⟩ := hsh
                have ok := hE.lv j sh M hsh hM
                refine fire rfl (cs := (M.cs.drop o').take (width p)) ?_ h1 (h2 hle) ?_
                · rw [← hagU]
                  cases ag with
                  | true =>
                    simp only [if_true] at hv
                    refine ⟨_, hv, ?_, ?_⟩
                    · simp only [List.length_take, List.length_drop, h3]
                    · intro i u c hu hcc
                      rw [List.getElem?_take] at hu hcc
                      split at hu
                      · rename_i hi
                        rw [if_pos hi] at hcc
                        rw [List.getElem?_drop] at hu hcc
                        exact ok.rep _ u c hu hcc
                      · cases hu
                  | false =>
                    simp only [Bool.false_eq_true, if_false] at hv
                    obtain ⟨hw1, hvv⟩ := hv
                    have hlt : o' < M.cs.length := by omega
                    refine ⟨M.cs[o'], ?_, ok.rep o' _ _ hvv (List.getElem?_eq_getElem hlt)⟩
                    rw [hw1, List.drop_eq_getElem_cons hlt]
                    rfl
                · simp only [WA.then, runW, wprim_take]
              · cases h
            · rename_i j o' kk hy
              split at h
              · rename_i hc
                simp only [Bool.and_eq_true] at hc
                obtain ⟨⟨hl, hok⟩, hoI⟩ := hc
                cases h
                obtain ⟨M, k', n, hM, hvv, hv⟩ := av_ok hG hy
                obtain rfl := last hl hM
                unfold okI at hoI
                split at hoI
                · rename_i k2 hk2
                  obtain ⟨M', v, c, hM', hvv', hcc, hrep, hconf, _, _⟩ := hE.at hk2
                  rw [hM] at hM'; cases hM'
                  rw [hvv] at hvv'; cases hvv'
                  obtain ⟨n2, rfl, hn2⟩ := hconf.int_inv
                  have hint := hrep.int_inv
                  cases hint
                  have hkk := okI_eq hoI hok
                  subst hkk
                  rw [hn2] at hv
                  refine fire hv (cs := [.int kk n]) (repV_one (by cases p <;> first | rfl | (simp [okP] at hok)) (.int _ _)) hok ⟨rfl, ?_⟩ ?_
                  · intro i c q hc hq
                    rcases i with _ | i
                    · cases hc; cases hq; exact .int _ _ hn2
                    · simp at hc
                  · obtain ⟨r, hr⟩ := drop_cons hcc
                    simp only [WA.then, runW, hr]
                    congr 1
                    rw [← wprim_take]
                    cases p <;> first | (simp [okP] at hok; done) | rfl
                · cases hoI
              · cases h
            · rename_i v hy
              rw [Option.map_eq_some_iff] at h
              obtain ⟨c, hc, rfl⟩ := h
              obtain ⟨h1, h2, h3⟩ := kOf_conf hc
              refine fire (av_ok hG hy) (cs := [c]) (repV_one (by cases p <;> first | rfl | (exfalso; unfold cvOf at hc; split at hc <;> simp_all)) (h3 _ _)) h1 ⟨rfl, ?_⟩ rfl
              intro i c' q hc' hq
              rcases i with _ | i
              · cases hc'; cases hq; exact h2
              · simp at hc'
            · cases h
          · split at h
            · -- a count
              rename_i p hp
              obtain ⟨hcon, hcall⟩ := hC.lf f p (look_mem hp)
              obtain ⟨hpl, hinv⟩ := lenW_inv h
              have fire : ∀ {n : Nat} {nl : Bool}, a.eval y = .int .i64 n → n < 2147483648 → (runW (wa.then k) L.cs = wlen p nl n ++ runW k L.cs) →
                  Callable P f ∧ ∃ out, runW (wa.then k) L.cs = out ++ runW k L.cs ∧ Calls P f (args.map a.eval) w fun e w' => ∃ d', e = .returned d' ∧ Own w' base T.tB d' (bs ++ out) ∧ Below base w w' := by
                intro n nl hv hn he
                refine ⟨hcall, _, he, ?_⟩
                rw [hargs2 hxy, av_ok hG hx, hv]
                have hq := hcon w base d bs n nl hown hbase hn (lenle _ he)
                rw [if_pos hpl] at hq
                refine hq.mono ?_
                rintro e w' ⟨d', rfl, ho', hg'⟩
                exact ⟨d', rfl, ho', hg'⟩
              rcases hinv with ⟨j, o', hy, hl, rfl⟩ | ⟨hy, rfl⟩
              · obtain ⟨M, nl, n, es, hM, hcc, hv⟩ := av_ok hG hy
                obtain rfl := last hl hM
                refine fire (nl := nl) hv (arrlt hM hcc) (by simp only [WA.then, runW, hcc, walen])
              · exact fire (n := 0) (nl := true) (av_ok hG hy) (by omega) rfl
            · cases h
      · cases h
    · rename_i x y z hxyz
      split at h
      · rename_i p hx hp
        obtain ⟨hcon, hcall⟩ := hC.lf f p (look_mem hp)
        obtain ⟨hpl, hinv⟩ := lenW2_inv h
        have fire : ∀ {n : Nat} {nl : Bool}, a.eval y = .int .i64 n → a.eval z = .bool nl → n < 2147483648 → (runW (wa.then k) L.cs = wlen p nl n ++ runW k L.cs) →
            Callable P f ∧ ∃ out, runW (wa.then k) L.cs = out ++ runW k L.cs ∧ Calls P f (args.map a.eval) w fun e w' => ∃ d', e = .returned d' ∧ Own w' base T.tB d' (bs ++ out) ∧ Below base w w' := by
          intro n nl hv hz hn he
          refine ⟨hcall, _, he, ?_⟩
          rw [hargs3 hxyz, av_ok hG hx, hv, hz]
          have hq := hcon w base d bs n nl hown hbase hn (lenle _ he)
          rw [if_neg (by simp [hpl])] at hq
          refine hq.mono ?_
          rintro e w' ⟨d', rfl, ho', hg'⟩
          exact ⟨d', rfl, ho', hg'⟩
        rcases hinv with ⟨j, o', hy, hz, hl, rfl⟩ | ⟨b, hy, hz, rfl⟩
        · obtain ⟨M, nl, n, es, hM, hcc, hv⟩ := av_ok hG hy
          obtain ⟨M', nl', n', es', hM', hcc', hv'⟩ := av_ok hG hz
          rw [hM] at hM'; cases hM'
          obtain rfl := last hl hM
          rw [hcc] at hcc'; cases hcc'
          exact fire (nl := nl) hv hv' (arrlt hM hcc) (by simp only [WA.then, runW, hcc, walen])
        · exact fire (n := 0) (nl := b) (av_ok hG hy) (av_ok hG hz) (by omega) rfl
      · cases h
    · cases h
end Go.Proofs.Eng
