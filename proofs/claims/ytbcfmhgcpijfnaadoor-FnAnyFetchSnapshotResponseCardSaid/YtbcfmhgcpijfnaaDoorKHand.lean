/-
  Things made behind an own slice; pieces that the executors take, within a walk.
-/
import Derived.Test.YtbcfmhgcpijfnaaDoorEngHk
import Derived.Test.YtbcfmhgcpijfnaaDoorPX
set_option linter.unusedVariables false
set_option linter.unusedSimpArgs false
namespace Go.Proofs.Eng
open Go Go.RowKit
attribute [local semireducible] wk wkD

theorem zl_one {zs : List Value} (h : ∀ u ∈ zs, u.oneCell' = true) : ∀ (n : Nat), ∀ u ∈ zl zs n, u.oneCell' = true := by
  intro n
  induction n with
  | zero => intro u hu; cases hu
  | succ n ih =>
    intro u hu
    rcases List.mem_append.1 (show u ∈ zs ++ zl zs n from hu) with hu | hu
    · exact h u hu
    · exact ih u hu
theorem run_append_zown {P : Program} {ρ : Operand → Value} {w : World} {o : Oper} {x y : Operand} {t u e : TypeId} {i : TypeInfo} {z : Value} {kn : IntKind} {v : Value} {n base : Nat} {zs : List Value} (ho : o.op = .call ⟨.builtin .append, #[x, y], #[t, u]⟩)
    (hx : ρ x = v) (hy : ρ y = .int .i32 n) (ht : P.underlying t = some (.slice e)) (hu : P.underlying u = some (.int kn)) (hi : P.info? e = some i) (hz : i.zero = some z) (hzs : z.cells = zs.toArray) (hsz : i.size = zs.length) (h0 : 0 < n) (hs : 0 < zs.length) (h63 : (n : Int) < 2147483648) (h48 : i.bytes ≤ 65536)
    (h1 : ∀ u ∈ zs, u.oneCell' = true) (hown : w.ownsRow base e zs.length v 0 []) (hb : base ≤ w.heap.size) :
    ∃ v' w', (execOp ρ o).run P w = .ok (.value v') w' ∧ w'.ownsRow base e zs.length v' n (zl zs n) ∧ w.grownBy w' v.ownBlock ∧ (v'.ownBlock = v.ownBlock ∨ ∃ g, v'.ownBlock = some g ∧ w.heap.size ≤ g) := by
  have hlen : (zl zs n).length = n * zs.length := zl_length zs n
  have hzc : ∀ m, Builtin.zeroCells z.cells m = (zl zs m).toArray := fun m => by rw [hzs]; exact zeroCells_zl zs hs m
  have hm : n ≤ maxLen := by simp only [maxLen]; omega
  have grown : ∀ (old : Nat) (row : Option Nat), (w.drew.alloc (.cells ((zl zs n).toArray ++ (zl zs (grownCap w n old e - n)).toArray) e)).ownsRow base e zs.length (.slice (some ⟨w.heap.size, 0, none⟩) n (grownCap w n old e)) n (zl zs n) ∧
      w.grownBy (w.drew.alloc (.cells ((zl zs n).toArray ++ (zl zs (grownCap w n old e - n)).toArray) e)) row := by
    intro old row
    have hge := grownCap_ge w n old e
    refine ⟨⟨hlen, .inr ⟨w.heap.size, _, _, rfl, hb, heap_alloc_new w.drew _, hge, grownCap_le_maxLen w n old e hm, ?_, ?_⟩⟩, ⟨rfl, rfl, rfl, by simp, fun k hk _ => heap_alloc_old w.drew _ hk⟩⟩
    · simp only [Array.size_append, List.size_toArray, zl_length, ← Nat.add_mul]
      congr 1
      omega
    · rw [Array.toList_append, ← hlen]
      exact List.take_left
  rcases hown.2 with ⟨rfl, _⟩ | ⟨g, cap, cur, rfl, hbg, hg, _, hcm, hcs, _⟩
  · have hr := run_append_zeros (P := P) (w := w) ho hx hy ht hu hi hz h0 (by omega) h63 h48
    rw [hzc, hzc] at hr
    exact ⟨_, _, hr, (grown 0 none).1, (grown 0 none).2, .inr ⟨_, rfl, Nat.le_refl _⟩⟩
  · have hn : n ≠ 0 := by omega
    have hb48 : n * i.bytes ≤ 140737488355328 := by
      have h1 : n * i.bytes ≤ 2147483648 * 65536 := Nat.mul_le_mul (by omega) h48
      omega
    have hw : IntKind.i64.wrap (n : Int) = n := by rw [IntKind.wrap_i64]; omega
    have h48i : ¬ (281474976710656 < (n : Int) * (i.bytes : Int)) := by
      rw [← Int.natCast_mul]
      omega
    have hneg : ¬ ((n : Int) < 0) := by omega
    have hns : ¬ (n * i.size = 0) := Nat.mul_ne_zero hn (by omega)
    by_cases hroom : n ≤ cap
    · have hfit : (zl zs n).length ≤ cur.size := by rw [hlen, hcs]; exact Nat.mul_le_mul_right _ hroom
      have hst := run_storeCells_at P g 0 e (zl zs n) 0 cur w hg (by simpa using hfit) (zl_one h1 n)
      simp only [Nat.add_zero, List.take_zero, List.nil_append, Nat.zero_add] at hst
      have key : (Builtin.append_ #[t, u] o.type #[.slice (some ⟨g, 0, none⟩) 0 cap, .int .i32 n]).run P w =
          .ok (.slice (some ⟨g, 0, none⟩) n cap) (w.setRow g ((zl zs n) ++ cur.toList.drop (zl zs n).length).toArray) := by
        simp [Builtin.append_, run_underlying ht, run_underlying hu, sizeOf, typeInfo, zeroValue, hi, hz, asInt, asIntOf, hw, hneg, hns, h48i, hroom, hzc, Addr.add_lit, hst]
      refine ⟨.slice (some ⟨g, 0, none⟩) n cap, w.setRow g ((zl zs n) ++ cur.toList.drop (zl zs n).length).toArray, by simp only [execOp, ho, resolve, invoke, builtin, Sem.run_bind, Sem.run_pure, Result.andThen_ok, List.map_toArray, List.map_cons, List.map_nil, hx, hy, key], ⟨hlen, .inr ⟨g, cap, _, rfl, hbg, setRow_heap w g cur _ e _ hg, hroom, hcm, ?_, ?_⟩⟩,
        ⟨rfl, rfl, rfl, by simp [World.setRow], fun k _ hk => setRow_other w g k _ (fun e => hk (by simp [Value.ownBlock, e]))⟩, .inl rfl⟩
      · simp only [List.size_toArray, List.length_append, List.length_drop, Array.length_toList]
        omega
      · rw [← hlen]
        exact List.take_left
    · have h63' : ¬ (9223372036854775807 < (n : Int)) := by omega
      have h48' : ¬ (281474976710656 < Builtin.nextslicecap n cap * i.bytes) := by
        have := growslice_fits (need := n) (old := cap) (bytes := i.bytes) (by omega) hb48
        omega
      have hf := run_firstCells_some (P := P) w.drew i.size 0 ⟨g, 0, none⟩ 0 cap [] (by simp) (by simp)
      have key : (Builtin.append_ #[t, u] o.type #[.slice (some ⟨g, 0, none⟩) 0 cap, .int .i32 n]).run P w =
          .ok (.slice (some ⟨w.heap.size, 0, none⟩) n (grownCap w n cap e)) (w.drew.alloc (.cells ((zl zs n).toArray ++ (zl zs (grownCap w n cap e - n)).toArray) e)) := by
        simp [Builtin.append_, run_underlying ht, run_underlying hu, sizeOf, typeInfo, zeroValue, hi, hz, asInt, asIntOf, hw, hneg, hns, h63', h48', h48i, hroom, Question.forced, hf, newRow, grownCap, hzc]
      exact ⟨_, _, by simp only [execOp, ho, resolve, invoke, builtin, Sem.run_bind, Sem.run_pure, Result.andThen_ok, List.map_toArray, List.map_cons, List.map_nil, hx, hy, key], (grown cap none).1, (grown cap _).2, .inr ⟨_, rfl, Nat.le_refl _⟩⟩
section
variable {P : Program} {Q : Exit → Act → World → Prop} {nT : Nat} {σ : Sv} {k : List TD} {w : World} {all : Array Oper} {l : List Oper} {ty : TypeId} {ps : String} {af : Array Edge} {d : Nat} {x y z : Operand} {t u : TypeId}
theorem wk_appendZ {e : TypeId} {i : TypeInfo} {z : Value} {kn : IntKind} {v : Value} {n base : Nat} {zs : List Value} (hx : evs σ x = some v) (hy : evs σ y = some (.int .i32 (n : Int))) (ht : P.underlying t = some (.slice e)) (hu : P.underlying u = some (.int kn)) (hi : P.info? e = some i) (hz : i.zero = some z) (hzs : z.cells = zs.toArray)
    (hsz : i.size = zs.length) (h0 : 0 < n) (hs : 0 < zs.length) (h63 : (n : Int) < 2147483648) (h48 : i.bytes ≤ 65536) (h1 : ∀ u ∈ zs, u.oneCell' = true) (hown : w.ownsRow base e zs.length v 0 []) (hb : base ≤ w.heap.size) (hd : Nat.blt d nT = true)
    (h : ∀ v' w', w'.ownsRow base e zs.length v' n (zl zs n) → w.grownBy w' v.ownBlock → (v'.ownBlock = v.ownBlock ∨ ∃ g, v'.ownBlock = some g ∧ w.heap.size ≤ g) → wk P Q nT ((d, v') :: σ) (.ops all l :: k) w') :
    wk P Q nT σ (.ops all (⟨some d, .call ⟨.builtin .append, #[x, y], #[t, u]⟩, ty, ps, af, none⟩ :: l) :: k) w := by
  intro a ha
  obtain ⟨v', w', h1, h2, h3, h4⟩ := run_append_zown (P := P) (o := ⟨some d, .call ⟨.builtin .append, #[x, y], #[t, u]⟩, ty, ps, af, none⟩) rfl (ha.ev hx) (ha.ev hy) ht hu hi hz hzs hsz h0 hs h63 h48 h1 hown hb
  exact wpT_value rfl h1 (h v' w' h2 h3 h4 _ (ha.put hd v'))
theorem wk_joinEndW {ι : Type} {S : ι → Sv} {W : ι → World → Prop} (i : ι) (hS : ∀ t v, look (S i) t = some v → look σ t = some v) (hW : W i w) : wk P (JoinQ Q nT S W) nT σ [] w :=
  fun _ ha => ⟨i, ha.weak hS, hW⟩
end
/-- What is known behind a piece of code that writes none of these slots. -/
theorem knows_after {nT : Nat} {σ σ' : Sv} {a a' : Act} {W : List Nat} (h : Knows nT σ a) (hn : a'.tmps.size = nT) (hd : a'.defers = []) (hs : ∀ t, has W t = false → a'.eval (.tmp t) = a.eval (.tmp t)) (hσ : ∀ t v, look σ' t = some v → look σ t = some v ∧ has W t = false) : Knows nT σ' a' := by
  refine ⟨hn, hd, fun t v hv => ?_⟩
  obtain ⟨h1, h2⟩ := hσ t v hv
  rw [hs t h2]
  exact h.2.2 t v h1
/-- A piece that the executor of reading takes. -/
theorem wk_execR {P : Program} {Q : Exit → Act → World → Prop} {nT rr : Nat} {k : List TD} {T : Tab} {R : TabR} {tR g : Nat} {E : Value} (hT : TabOK P T) (hR : TabROK P R tR g E) {n0 : Nat} {dB : List Value} {σB : SR} {c : Code} {rb0 : Res} {W : List Nat} {σ σ' : Sv} {w : World}
    (hx : execR T R nT rr n0 false 0 dB 0 σB .none [.code c] = some rb0) (hW : allB (fun t => has W t) (wrC c) = true)
    {X : Nat → Prop} {bl : Nat} {A C : List Value} {bt : TypeId} {cs : List CV} {s : RS} {rb : Nat} (hS : StR w X tR g E rb bl A C dB bt cs s)
    (hσ : ∀ t x, (t, x) ∈ σB → ∃ v, look σ t = some v ∧ DenR [(bl, A.length)] ⟨rb, undef, .slice none 0 0, 0, s.bad, E, 0⟩ x v)
    (hσ' : ∀ t v, look σ' t = some v → look σ t = some v ∧ has W t = false)
    (hok : ∀ w' vals' cs' s', runR rb0.k cs s = some (cs', s') → Turn w w' rb bl → StR w' X tR g E rb bl A C vals' bt cs' s' → vals'.length = dB.length → wk P Q nT σ' k w')
    (hbad : runR rb0.k cs s = none → ∀ w' a', Turn w w' rb bl → a'.defers = [] → a'.eval (.tmp rr) = E → Q .ret a' w') : wk P Q nT σ (.code c :: k) w := by
  intro a ha
  have hG : GamR [(bl, A.length)] ⟨rb, undef, .slice none 0 0, 0, s.bad, E, 0⟩ σB a := by
    intro t x hm
    obtain ⟨v, h1, h2⟩ := hσ t x hm
    rw [ha.2.2 t v h1]
    exact h2
  have key := execR_ok hT hR (nT := nT) (rr := rr) n0 false 0 dB 0 σB .none [.code c] rb0 hx (Exit.then (wpT P Q k) Q) X [(bl, A.length)] bl A C dB bt cs s ⟨rb, undef, .slice none 0 0, 0, s.bad, E, 0⟩ [] w a rfl rfl hS rfl rfl rfl (fun _ _ => rfl) hG ha.1 ha.2.1 (.inl rfl) trivial ?_ ?_
  · exact wpT_one key
  · intro a' w' vals' cs' s' ho hA hS' hv _
    refine hok w' vals' cs' s' ho hA.turn hS' hv a' (knows_after (W := W) ha hA.size (hA.defers.trans ha.2.1) (fun t ht => hA.same t ?_) hσ')
    intro hm
    have : t ∈ wrC c := by simpa [wrT] using hm
    rw [allB_mem hW t this] at ht
    cases ht
  · intro a' w' ho hA hE
    exact hbad ho w' a' hA.turn (hA.defers.trans ha.2.1) hE
/-- A piece that the executor of writing takes: two codes in a row, at a struct. -/
theorem wk_execW {P : Program} {Q : Exit → Act → World → Prop} {nT : Nat} {k : List TD} {T : Tab} (hT : TabOK P T) (hC : Conts P T) {n0 : Nat} {sh : List K} {σB : Sg} {c1 c2 : Code} {wp : WP} {W : List Nat} {σ σ' : Sv} {w : World}
    (hx : execW T [] nT n0 none [sh] σB [.code c1, .code c2] = some wp) (hW : allB (fun t => has W t) (wrC c1 ++ wrC c2) = true)
    {base : Nat} {L : Lv} {d : Value} {bs : List UInt8} (hL : LvOK w base sh L) (hown : Own w base T.tB d bs) (hbase : base ≤ w.heap.size) (hsz : bs.length + (runW wp L.cs).length ≤ lim)
    (hσ : ∀ t x, (t, x) ∈ σB → ∃ v, look σ t = some v ∧ Den [L] d x v)
    (hσ' : ∀ t v, look σ' t = some v → look σ t = some v ∧ has W t = false)
    (hok : ∀ w' d', Own w' base T.tB d' (bs ++ runW wp L.cs) → Below base w w' → wk P Q nT ((1, d') :: σ') k w') : wk P Q nT σ (.code c1 :: .code c2 :: k) w := by
  intro a ha
  have hG : Gam [L] d σB a := by
    intro t x hm
    obtain ⟨v, h1, h2⟩ := hσ t x hm
    rw [ha.2.2 t v h1]
    exact h2
  have key := execW_ok hT hC (nT := nT) n0 none [sh] σB [.code c1, .code c2] wp hx (Exit.then (wpT P Q k) Q) base [L] w a d bs L ⟨rfl, fun j sh' L' h1 h2 => by
      cases j with
      | zero => cases h1; cases h2; exact hL
      | succ j => simp at h1, fun o v L' h1 h2 => by simp at h1⟩ hG ha.1 ha.2.1 rfl hown hbase hsz ?_
  · have h2 : c1.wp P (Exit.then (wpT P (Exit.then (wpT P Q k) Q) [.code c2]) (Exit.then (wpT P Q k) Q)) a w := key
    refine wp_mono h2 ?_
    intro e a' w' q
    cases e with
    | normal => exact wpT_one q
    | _ => exact q
  · intro a' w' d' hA hd'
    refine hok w' d' hA.own hA.below a' ⟨hA.size, hA.defers.trans ha.2.1, fun t v hv => ?_⟩
    simp only [look] at hv
    split at hv
    · rename_i hb
      have := Nat.eq_of_beq_eq_true hb
      subst this
      cases hv
      exact hd'
    · obtain ⟨h3, h4⟩ := hσ' t v hv
      rw [hA.same t ?_]
      · exact ha.2.2 t v h3
      · intro hm2
        have : t ∈ wrC c1 ++ wrC c2 := by simpa [wrT] using hm2
        rw [allB_mem hW t this] at h4
        cases h4
end Go.Proofs.Eng
