/-
  A tag is set in a map that lies in a cell of a struct's block.
-/
import Derived.Test.YtbcfmhgcpijfnaaDoorRK3
import Derived.Test.YtbcfmhgcpijfnaaDoorEngHk
set_option linter.unusedVariables false
set_option linter.unusedSimpArgs false
namespace Go.Proofs.YtbcfmhgcpijfnaaDoor
open Go Go.RowKit Go.Proofs.Eng
set_option maxRecDepth 20000
set_option maxHeartbeats 4000000
theorem set_same {cur : Array Value} {o : Nat} {v : Value} (h : cur[o]? = some v) : cur.setIfInBounds o v = cur := by
  apply Array.ext
  · simp
  · intro i h1 h2
    rw [Array.getElem_setIfInBounds]
    split
    · rename_i e
      subst e
      rw [Array.getElem?_eq_getElem h2] at h
      exact (Option.some.inj h).symm
    · rfl
/-- What is turned where a tag is set in the map of cell o of block b0: that block, the map. -/
structure TS (w w' : World) (b0 : Nat) (mv mv' : Value) : Prop where
  os : w'.os = w.os
  tape : w'.tape = w.tape
  output : w'.output = w.output
  size : w.heap.size ≤ w'.heap.size
  block : ∀ q, q < w.heap.size → q ≠ b0 → mv ≠ .map (some q) → w'.heap[q]? = w.heap[q]?
  same : ∀ q, mv = .map (some q) → mv' = .map (some q)
  new : ∀ q, mv' = .map (some q) → mv = .map (some q) ∨ w.heap.size ≤ q
theorem c_TagsSetAt (w : World) (base b0 o k : Nat) (Y : Nat → Prop) (hY : ∀ b, base ≤ b → Y b) (hY0 : Y b0) (mv val : Value) (acc : List (Nat × List UInt8)) (v : List UInt8) (cur : Array Value) (bt : TypeId) (hb0 : w.heap[b0]? = some (.cells cur bt (0, 0))) (ho : cur[o]? = some mv)
    (hbs : base ≤ w.heap.size) (hm : MapAt w base Y mv acc) (hs : acc.Pairwise (fun a b => a.1 < b.1)) (hv : BytesRep0 w Y val v) :
    Calls Tryd.prog 49 #[.pointer (some ⟨b0, o, none⟩), .int .u32 (k : Int), val] w fun e w' => e = .returned (.tuple #[]) ∧ ∃ mv', w'.heap[b0]? = some (.cells (cur.setIfInBounds o mv') bt (0, 0)) ∧ MapAt w' base Y mv' (tagSet k v acc) ∧ TS w w' b0 mv mv' := by
  have holt : o < cur.size := (Array.getElem?_eq_some_iff.1 ho).1
  refine calls_wk (args := [.pointer (some ⟨b0, o, none⟩), .int .u32 (k : Int), val]) Tryd.func49 rfl rfl ?_
  have upd : ∀ (r : Nat) (ents : Array MapEntry) (cl : Nat) (w1 : World), w1.heap[b0]? = some (.cells (cur.setIfInBounds o (.map (some r))) bt (0, 0)) → w1.heap[r]? = some (.map ents cl) → base ≤ r → TS w w1 b0 mv (.map (some r)) →
      ∀ ents' cl', Go.MapKept.Stamped ents' cl' → TagsRep (World.setMap w1 r ents' cl') Y ents' (tagSet k v acc) → ∃ mv', (World.setMap w1 r ents' cl').heap[b0]? = some (.cells (cur.setIfInBounds o mv') bt (0, 0)) ∧ MapAt (World.setMap w1 r ents' cl') base Y mv' (tagSet k v acc) ∧ TS w (World.setMap w1 r ents' cl') b0 mv mv' := by
    intro r ents cl w1 h1 h2 h3 h4 ents' cl' hst' hT
    have hne : b0 ≠ r := fun e => by subst e; rw [h2] at h1; cases h1
    obtain ⟨s1, s2⟩ := setMap_at h2 ents' cl'
    refine ⟨.map (some r), (s2 b0 hne).trans h1, .inr ⟨r, ents', cl', rfl, h3, s1, hst', hT, tagSet_ne _ _ _⟩, h4.os, h4.tape, h4.output, ?_, ?_, h4.same, h4.new⟩
    · have := h4.size
      simpa [World.setMap] using this
    · intro q hq hq0 hqm
      refine (s2 q ?_).trans (h4.block q hq hq0 hqm)
      rintro rfl
      rcases h4.new q rfl with h | h
      · exact hqm h
      · omega
  have hcell : w.cell? ⟨b0, o, none⟩ = some mv := by rw [cell_of_row w b0 o cur bt (0, 0) hb0]; exact ho
  rcases hm with ⟨rfl, rfl⟩ | ⟨r, ents, cl, rfl, hr, hmr, hst, hT, _⟩
  · refine wk_seq ?_
    refine wk_seq ?_
    refine wk_reg (id := 0) ?_
    refine wk_move rfl rfl ?_
    refine wk_nilCheck rfl rfl ?_
    refine wk_field (f := 0) (i := Tryd.t40) rfl Tryd.underlying42 rfl (by kernel_rfl) (by decide) rfl ?_
    refine wk_load (v := .map none) rfl Tryd.underlying40 rfl hcell rfl ?_
    skip
    refine wk_eqnilm rfl rfl Tryd.underlying40 rfl ?_
    refine wk_nil ?_
    refine wk_condT rfl ?_
    refine wk_reg (id := 1) ?_
    refine wk_move rfl rfl ?_
    refine wk_makeMap rfl ?_
    have hb1 := below1 w (.map #[] 0)
    have h1 := (hb1.block b0 (lt_of_some hb0)).trans hb0
    have h2 := heap_alloc_new w (.map #[] 0)
    have hne : b0 ≠ w.heap.size := Nat.ne_of_lt (lt_of_some hb0)
    refine wk_nilCheck rfl rfl ?_
    refine wk_field (f := 0) (i := Tryd.t40) rfl Tryd.underlying42 rfl (by kernel_rfl) (by decide) rfl ?_
    refine wk_store1 (o := o) (i := Tryd.t40) rfl rfl h1 (by kernel_rfl) rfl rfl rfl holt ?_
    have h3 := setRow_heap _ _ _ (cur.setIfInBounds o (.map (some w.heap.size))) _ _ h1
    have h4 := (setRow_other _ _ _ (cur.setIfInBounds o (.map (some w.heap.size))) (Ne.symm hne)).trans h2
    have hbw : TS w ((w.alloc (.map #[] 0)).setRow b0 (cur.setIfInBounds o (.map (some w.heap.size)))) b0 (.map none) (.map (some w.heap.size)) :=
      ⟨rfl, rfl, rfl, by simp [World.setRow], fun q hq hq0 _ => (setRow_other _ _ _ _ hq0).trans (hb1.block q hq), fun q h => by simp at h, fun q h => by simp only [Value.map.injEq, Option.some.injEq] at h; right; omega⟩
    have hkY : Keeps Y w ((w.alloc (.map #[] 0)).setRow b0 (cur.setIfInBounds o (.map (some w.heap.size)))) :=
      ⟨by simp [World.setRow], fun q hq hqY => (setRow_other _ _ _ _ (fun e => hqY (by rw [e]; exact hY0))).trans (hb1.block q hq)⟩
    have hc3 : ((w.alloc (.map #[] 0)).setRow b0 (cur.setIfInBounds o (.map (some w.heap.size)))).cell? ⟨b0, o, none⟩ = some (.map (some w.heap.size)) := by
      rw [cell_of_row _ b0 o _ bt (0, 0) h3]
      simp [holt]
    refine wk_nil ?_
    refine wk_reg (id := 2) ?_
    refine wk_move rfl rfl ?_
    refine wk_nilCheck rfl rfl ?_
    refine wk_field (f := 0) (i := Tryd.t40) rfl Tryd.underlying42 rfl (by kernel_rfl) (by decide) rfl ?_
    refine wk_load (v := .map (some w.heap.size)) rfl Tryd.underlying40 rfl hc3 rfl ?_
    refine wk_move rfl rfl ?_
    refine wk_move rfl rfl ?_
    refine wk_mapUpdate (Y := Y) (tl := []) rfl rfl rfl Tryd.underlying40 Tryd.underlying64 h4 (hY _ hbs) (Go.MapKept.stamped_empty 0) ⟨[], rfl, List.Perm.refl _, fun i e h => by simp at h⟩ (by simp) (hv.keep hkY) (fun ents' cl' hst' hT => ?_)
    refine wk_nil ?_
    exact wk_end0 (fun _ _ h => h) rfl ⟨rfl, upd _ _ _ _ h3 h4 hbs hbw ents' cl' hst' hT⟩
  · refine wk_seq ?_
    refine wk_seq ?_
    refine wk_reg (id := 0) ?_
    refine wk_move rfl rfl ?_
    refine wk_nilCheck rfl rfl ?_
    refine wk_field (f := 0) (i := Tryd.t40) rfl Tryd.underlying42 rfl (by kernel_rfl) (by decide) rfl ?_
    refine wk_load (v := .map (some r)) rfl Tryd.underlying40 rfl hcell rfl ?_
    skip
    refine wk_eqnilm rfl rfl Tryd.underlying40 rfl ?_
    refine wk_nil ?_
    refine wk_condF rfl ?_
    refine wk_skip ?_
    refine wk_reg (id := 2) ?_
    refine wk_move rfl rfl ?_
    refine wk_nilCheck rfl rfl ?_
    refine wk_field (f := 0) (i := Tryd.t40) rfl Tryd.underlying42 rfl (by kernel_rfl) (by decide) rfl ?_
    refine wk_load (v := .map (some r)) rfl Tryd.underlying40 rfl hcell rfl ?_
    refine wk_move rfl rfl ?_
    refine wk_move rfl rfl ?_
    refine wk_mapUpdate (Y := Y) (tl := acc) rfl rfl rfl Tryd.underlying40 Tryd.underlying64 hmr (hY _ hr) hst hT hs hv (fun ents' cl' hst' hT => ?_)
    refine wk_nil ?_
    exact wk_end0 (fun _ _ h => h) rfl ⟨rfl, upd r ents cl w (by rw [set_same ho]; exact hb0) hmr hr ⟨rfl, rfl, rfl, Nat.le_refl _, fun _ _ _ _ => rfl, fun _ h => h, fun _ h => .inl h⟩ ents' cl' hst' hT⟩
theorem c_LeadDef (w : World) (p : Value) : Calls Tryd.prog 29 #[p] w fun e w' => e = .returned (.tuple #[]) ∧ w' = w := by
  refine calls_wk (args := [p]) Tryd.func29 rfl rfl ?_
  refine wk_skip ?_
  exact wk_end0 (fun _ _ h => h) rfl ⟨rfl, rfl⟩
end Go.Proofs.YtbcfmhgcpijfnaaDoor
