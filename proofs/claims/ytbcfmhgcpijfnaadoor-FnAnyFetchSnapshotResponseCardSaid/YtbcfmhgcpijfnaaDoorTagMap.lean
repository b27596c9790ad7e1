/-
  Tags in a map of the call's own: a tag is set.
-/
import Derived.Test.YtbcfmhgcpijfnaaDoorEngJ
import Derived.Test.YtbcfmhgcpijfnaaDoorPR
import Derived.MapKept
set_option linter.unusedVariables false
set_option linter.unusedSimpArgs false
namespace Go.Proofs.Eng
open Go Go.RowKit Go.MapKept
attribute [local semireducible] wk wkD

theorem tagSet_new {k : Nat} {v : List UInt8} : ∀ {l : List (Nat × List UInt8)}, (∀ t ∈ l, t.1 ≠ k) → (tagSet k v l).Perm ((k, v) :: l) := by
  intro l
  induction l with
  | nil => intro _; exact List.Perm.refl _
  | cons t r ih =>
    intro h
    simp only [tagSet]
    split
    · exact List.Perm.refl _
    · split
      · rename_i h1; exact absurd h1.symm (h t (List.mem_cons_self ..))
      · exact ((ih (fun u hu => h u (List.mem_cons_of_mem _ hu))).cons t).trans (List.Perm.swap _ _ _)
def repT (k : Nat) (v : List UInt8) (t : Nat × List UInt8) : Nat × List UInt8 := if t.1 = k then (k, v) else t
theorem tagSet_old {k : Nat} {v : List UInt8} : ∀ {l : List (Nat × List UInt8)}, l.Pairwise (fun a b => a.1 < b.1) → (∃ t ∈ l, t.1 = k) → tagSet k v l = l.map (repT k v) := by
  intro l
  induction l with
  | nil => rintro _ ⟨t, ht, _⟩; cases ht
  | cons t r ih =>
    intro hs hk
    rw [List.pairwise_cons] at hs
    obtain ⟨h1, h2⟩ := hs
    simp only [tagSet, List.map_cons]
    split
    · rename_i hlt
      exfalso
      obtain ⟨u, hu, rfl⟩ := hk
      cases hu with
      | head => omega
      | tail _ hu => have := h1 u hu; omega
    · split
      · rename_i he
        subst he
        have hr : r.map (repT t.1 v) = r := by
          have : ∀ u ∈ r, repT t.1 v u = id u := fun u hu => by have := h1 u hu; simp only [repT, id]; rw [if_neg (by omega)]
          rw [List.map_congr_left this, List.map_id]
        rw [hr]
        simp [repT]
      · rename_i hne
        have : repT k v t = t := by simp only [repT]; rw [if_neg (fun h => hne h.symm)]
        rw [this, ih h2]
        obtain ⟨u, hu, rfl⟩ := hk
        cases hu with
        | head => exact absurd rfl hne
        | tail _ hu => exact ⟨u, hu, rfl⟩
theorem sorted_keys {l : List (Nat × List UInt8)} (h : l.Pairwise (fun a b => a.1 < b.1)) : (l.map (·.1)).Nodup := by
  rw [List.Nodup, List.pairwise_map]
  exact h.imp (fun h => Nat.ne_of_lt h)
theorem set_map {k : Nat} {v : List UInt8} : ∀ {m : List (Nat × List UInt8)} {j : Nat} {b : List UInt8}, (m.map (·.1)).Nodup → m[j]? = some (k, b) → m.set j (k, v) = m.map (repT k v) := by
  intro m
  induction m with
  | nil => intro j b _ h; simp at h
  | cons t r ih =>
    intro j b hn h
    rw [List.map_cons, List.nodup_cons] at hn
    cases j with
    | zero =>
      cases h
      rw [List.set_cons_zero, List.map_cons]
      have hr : r.map (repT k v) = r := by
        have : ∀ u ∈ r, repT k v u = id u := fun u hu => by
          simp only [repT, id]
          rw [if_neg (fun e => hn.1 (List.mem_map.2 ⟨u, hu, e⟩))]
        rw [List.map_congr_left this, List.map_id]
      rw [hr]
      simp [repT]
    | succ j =>
      have h' : r[j]? = some (k, b) := by simpa using h
      rw [List.set_cons_succ, List.map_cons, ih hn.2 h']
      have : repT k v t = t := by
        simp only [repT]
        rw [if_neg (fun e => hn.1 (List.mem_map.2 ⟨(k, b), List.mem_of_getElem? h', e.symm⟩))]
      rw [this]

/-- A map's tags, in a block of the call's own. -/
def MapAt (w : World) (base : Nat) (Y : Nat → Prop) (mv : Value) (l : List (Nat × List UInt8)) : Prop :=
  (mv = .map none ∧ l = []) ∨ ∃ r ents cl, mv = .map (some r) ∧ base ≤ r ∧ w.heap[r]? = some (.map ents cl) ∧ Stamped ents cl ∧ TagsRep w Y ents l ∧ l ≠ []
theorem MapAt.keep {w w' : World} {base : Nat} {Y : Nat → Prop} {mv : Value} {l : List (Nat × List UInt8)} (h : MapAt w base Y mv l) (hb : Keeps Y w w') (hm : ∀ (r : Nat) (es : Array MapEntry) (cl : Nat), w.heap[r]? = some (Obj.map es cl) → w'.heap[r]? = some (Obj.map es cl)) : MapAt w' base Y mv l := by
  rcases h with h | ⟨r, ents, cl, h1, h2, h3, hst, h4, h5⟩
  · exact .inl h
  · exact .inr ⟨r, ents, cl, h1, h2, hm r ents cl h3, hst, h4.keep hb, h5⟩
theorem tagSet_ne (k : Nat) (v : List UInt8) : ∀ (l : List (Nat × List UInt8)), tagSet k v l ≠ [] := by
  intro l
  cases l with
  | nil => simp [tagSet]
  | cons t r =>
    simp only [tagSet]
    split
    · simp
    · split <;> simp
def World.setMap (w : World) (r : Nat) (ents : Array MapEntry) (cl : Nat) : World := { w with heap := w.heap.setIfInBounds r (.map ents cl) }
theorem tags_update {P : Program} {w : World} {t kt et r k : Nat} {Y : Nat → Prop} {ents : Array MapEntry} {cl : Nat} {l : List (Nat × List UInt8)} {val : Value} {v : List UInt8} (ht : P.underlying t = some (.map kt et)) (hk : P.underlying kt = some (.int .u32)) (hb : w.heap[r]? = some (.map ents cl)) (hr : Y r) (hst : Stamped ents cl) (hT : TagsRep w Y ents l)
    (hs : l.Pairwise (fun a b => a.1 < b.1)) (hv : BytesRep0 w Y val v) :
    ∃ ents' cl', (∀ (ρ : Operand → Value) (o : Oper) (x y z : Operand), o.op = .mapUpdate t x y z → ρ x = .map (some r) → ρ y = .int .u32 (k : Int) → ρ z = val → (execOp ρ o).run P w = .ok .skip (World.setMap w r ents' cl')) ∧ Stamped ents' cl' ∧ TagsRep (World.setMap w r ents' cl') Y ents' (tagSet k v l) := by
  obtain ⟨m, hm1, hm2, hm3⟩ := hT
  have hks : ∀ e ∈ ents.toList, IsKey (.int .u32) e.key := by
    intro e he
    obtain ⟨i, hi⟩ := List.mem_iff_getElem?.1 he
    obtain ⟨kk, bs, _, h2, _⟩ := hm3 i e (by simpa using hi)
    rw [h2]
    simp [IsKey]
  have hkey : IsKey (.int .u32) (Value.int .u32 (k : Int)) := by simp [IsKey]
  have hlt : r < w.heap.size := lt_of_some hb
  have keep : ∀ o' : Obj, Keeps Y w { w with heap := w.heap.setIfInBounds r o' } := fun o' => ⟨by simp, fun b _ hX => (heap_set hb).2 b (fun e => hX (e ▸ hr))⟩
  rcases findNow_spec hkey ents.toList 0 hks with ⟨h1, h2⟩ | ⟨j, e, h1, h2, h3⟩
  · have hrun : (Instr.mapUpdate t (.map (some r)) (.int .u32 (k : Int)) val).run P w = .ok () { w with heap := w.heap.setIfInBounds r (.map (ents.push ⟨.int .u32 (k : Int), val, cl⟩) (cl + 1)) } := by
      simp [Instr.mapUpdate, run_underlying ht, Go.MapKept.run_getObj_map hb, run_checkKey hk hkey, run_findKey hk h1, Go.MapKept.run_setObj_map _ hb, Result.andThen]
    refine ⟨ents.push ⟨.int .u32 (k : Int), val, cl⟩, cl + 1, fun ρ o x y z ho hx hy hz => by simp [execOp, ho, hx, hy, hz, hrun, World.setMap], stamped_push hst h2, ?_⟩
    refine ⟨m ++ [(k, v)], by simp [hm1], ?_, ?_⟩
    · have hnk : ∀ u ∈ l, u.1 ≠ k := by
        intro u hu
        have hu' : u ∈ m := hm2.mem_iff.2 hu
        obtain ⟨i, hi⟩ := List.mem_iff_getElem?.1 hu'
        have hil : i < ents.size := by rw [← hm1]; exact (List.getElem?_eq_some_iff.1 hi).1
        obtain ⟨kk, bs, a1, a2, _⟩ := hm3 i _ (Array.getElem?_eq_getElem hil)
        rw [hi] at a1
        cases a1
        intro e
        have := h2 ents[i] (Array.getElem_mem_toList hil)
        rw [a2] at this
        exact this (by rw [← e])
      exact (List.perm_append_comm.trans (hm2.cons (k, v))).trans (tagSet_new hnk).symm
    · intro i e he
      rw [Array.getElem?_push] at he
      split at he
      · rename_i hi
        cases he
        refine ⟨k, v, by rw [hi, ← hm1]; simp, rfl, hv.keep (keep _)⟩
      · obtain ⟨kk, bs, a1, a2, a3⟩ := hm3 i e he
        exact ⟨kk, bs, by rw [List.getElem?_append_left (List.getElem?_eq_some_iff.1 a1).1]; exact a1, a2, a3.keep (keep _)⟩
  · have hj : ents[j]? = some e := by simpa using h2
    have hjl : j < ents.size := (Array.getElem?_eq_some_iff.1 hj).1
    obtain ⟨kk, bs, b1, b2, b3⟩ := hm3 j e hj
    have hkk : kk = k := by
      rw [h3] at b2
      simp only [Value.int.injEq] at b2
      omega
    subst hkk
    have hrun : (Instr.mapUpdate t (.map (some r)) (.int .u32 (kk : Int)) val).run P w = .ok () { w with heap := w.heap.setIfInBounds r (.map (ents.modify j fun e => { e with key := .int .u32 (kk : Int), val := val }) cl) } := by
      simp [Instr.mapUpdate, run_underlying ht, Go.MapKept.run_getObj_map hb, run_checkKey hk hkey, run_findKey hk h1, hj, h3, run_keyThatStays hkey, Go.MapKept.run_setObj_map _ hb, Result.andThen]
    refine ⟨ents.modify j fun e => { e with key := .int .u32 (kk : Int), val := val }, cl, fun ρ o x y z ho hx hy hz => by simp [execOp, ho, hx, hy, hz, hrun, World.setMap], stamped_modify hst _ _ (fun _ _ => rfl) (fun e' _ he' => by rw [hj] at he'; cases he'; exact h3.symm), ?_⟩
    have hnd : (m.map (·.1)).Nodup := ((hm2.map _).nodup_iff).2 (sorted_keys hs)
    refine ⟨m.set j (kk, v), by simp [hm1], ?_, ?_⟩
    · rw [set_map hnd b1, tagSet_old hs ⟨(kk, bs), hm2.mem_iff.1 (List.mem_of_getElem? b1), rfl⟩]
      exact hm2.map _
    · intro i e' he'
      rw [Array.getElem?_modify] at he'
      rw [List.getElem?_set]
      by_cases hij : j = i
      · subst hij
        rw [if_pos rfl, hj] at he'
        simp only [Option.map_some, Option.some.injEq] at he'
        subst he'
        refine ⟨kk, v, ?_, rfl, hv.keep (keep _)⟩
        rw [if_pos rfl, if_pos (by rw [hm1]; exact hjl)]
      · rw [if_neg hij] at he' ⊢
        obtain ⟨k2, bs2, a1, a2, a3⟩ := hm3 i e' he'
        exact ⟨k2, bs2, a1, a2, a3.keep (keep _)⟩
theorem run_eqlnil_map {P : Program} {ρ : Operand → Value} {w : World} {o : Oper} {x y : Operand} {t t' kt et : TypeId} {A : Option Nat} (ho : o.op = .binOp .eql t x y t') (ht : P.underlying t = some (.map kt et)) (hx : ρ x = .map A) (hy : ρ y = .map none) :
    (execOp ρ o).run P w = .ok (.value (.bool A.isNone)) w := by
  have heq : ∀ d, (Op.equalIn (d + 1) t (.map A) (.map none)).run P w = .ok A.isNone w := by
    intro d
    cases A <;> simp [Op.equalIn, run_underlying ht]
  simp [execOp, ho, hx, hy, eqGuard, binOp, Op.equal, Op.maxDepth, heq 9999]
section
variable {P : Program} {Q : Exit → Act → World → Prop} {nT : Nat} {σ : Sv} {k : List TD} {w : World} {all : Array Oper} {l : List Oper} {ty : TypeId} {ps : String} {af : Array Edge} {d : Nat} {x y z : Operand} {t t' : TypeId}
theorem wk_eqnilm {kt et : TypeId} {A : Option Nat} (hx : evs σ x = some (.map A)) (hy : evs σ y = some (.map none)) (ht : P.underlying t = some (.map kt et)) (hd : Nat.blt d nT = true)
    (h : wk P Q nT ((d, .bool A.isNone) :: σ) (.ops all l :: k) w) : wk P Q nT σ (.ops all (⟨some d, .binOp .eql t x y t', ty, ps, af, none⟩ :: l) :: k) w := wk_val (fun _ ha => run_eqlnil_map rfl ht (ha.ev hx) (ha.ev hy)) hd h
theorem wk_mapUpdate {kt et r q : Nat} {Y : Nat → Prop} {ents : Array MapEntry} {cl : Nat} {tl : List (Nat × List UInt8)} {val : Value} {v : List UInt8} (hx : evs σ x = some (.map (some r))) (hy : evs σ y = some (.int .u32 (q : Int))) (hz : evs σ z = some val)
    (ht : P.underlying t = some (.map kt et)) (hk : P.underlying kt = some (.int .u32)) (hb : w.heap[r]? = some (.map ents cl)) (hr : Y r) (hst : Stamped ents cl) (hT : TagsRep w Y ents tl) (hs : tl.Pairwise (fun a b => a.1 < b.1)) (hv : BytesRep0 w Y val v)
    (h : ∀ ents' cl', Stamped ents' cl' → TagsRep (World.setMap w r ents' cl') Y ents' (tagSet q v tl) → wk P Q nT σ (.ops all l :: k) (World.setMap w r ents' cl')) : wk P Q nT σ (.ops all (⟨none, .mapUpdate t x y z, ty, ps, af, none⟩ :: l) :: k) w := by
  obtain ⟨ents', cl', hrun, hst', hT'⟩ := tags_update (P := P) ht hk hb hr hst hT hs hv
  exact wk_unit (fun a ha => hrun _ _ x y z rfl (ha.ev hx) (ha.ev hy) (ha.ev hz)) (h ents' cl' hst' hT')
theorem setMap_at {w : World} {r : Nat} {o : Obj} (hb : w.heap[r]? = some o) (ents : Array MapEntry) (cl : Nat) : (World.setMap w r ents cl).heap[r]? = some (.map ents cl) ∧ ∀ r', r' ≠ r → (World.setMap w r ents cl).heap[r']? = w.heap[r']? := heap_set hb
theorem setMap_below (w : World) {r base : Nat} {o : Obj} (hb : w.heap[r]? = some o) (hr : base ≤ r) (ents : Array MapEntry) (cl : Nat) : Below base w (World.setMap w r ents cl) :=
  ⟨rfl, rfl, rfl, by simp [World.setMap], fun k hk => (setMap_at hb ents cl).2 k (by omega)⟩
theorem wk_makeMap (hd : Nat.blt d nT = true) (h : wk P Q nT ((d, .map (some w.heap.size)) :: σ) (.ops all l :: k) (w.alloc (.map #[] 0))) : wk P Q nT σ (.ops all (⟨some d, .makeMap t none, ty, ps, af, none⟩ :: l) :: k) w :=
  wk_val (fun _ _ => by simp [execOp, Instr.makeMap, Result.andThen]) hd h
end
end Go.Proofs.Eng
