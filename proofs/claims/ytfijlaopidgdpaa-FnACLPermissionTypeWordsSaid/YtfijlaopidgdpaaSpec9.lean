/-
  The reference: what a new message says.
-/
import Derived.Test.YtfijlaopidgdpaaSpec8
import Derived.Test.YtfijlaopidgdpaaEngF
namespace Go.Proofs.Ytfijlaopidgdpaa
open Go Go.RowKit Go.Proofs.Eng
set_option maxRecDepth 20000
set_option maxHeartbeats 4000000

/-- The defaults are numbers of 64 bits. -/
def dfB : Nat → List Fld → Bool
  | 0, _ => false
  | d + 1, fs => fs.all fun f => decide (IntKind.i64.wrap f.dflt = f.dflt) && dfB d f.sub
theorem dfB_at {d : Nat} {fs : List Fld} (h : dfB (d + 1) fs = true) {f : Fld} (hf : f ∈ fs) : IntKind.i64.wrap f.dflt = f.dflt ∧ dfB d f.sub = true := by
  simp only [dfB, List.all_eq_true, Bool.and_eq_true, decide_eq_true_eq] at h
  exact h f hf
def dTree (d : Nat) (f : Fld) : Tree := .mk f.dflt [] (decide (0 ≤ f.null)) (if f.kind = 10 then (sDefault d f.sub).L else []) []
def DefaultC (d : Nat) : Prop := ∀ (w : World) (X : Nat → Prop) (v : Value) (fs : List Fld), FRep w X v fs → fsB d fs = true → dfB d fs = true →
  Calls Try.prog 12 #[v] w fun e w' => ∃ vs, e = .returned (.agg vs.toArray) ∧ TRep w' (fun b => b < w.heap.size) vs (sDefault d fs) ∧ Below w.heap.size w w'
theorem below_setRow {B : Nat} {a w : World} (h : Below B a w) {b : Nat} (hb : B ≤ b) (cs : Array Value) : Below B a (w.setRow b cs) :=
  h.trans ⟨rfl, rfl, rfl, by simp [World.setRow], fun k hk => setRow_other w b k cs (by omega)⟩
theorem keeps_setRow {X : Nat → Prop} (w : World) {b : Nat} (hb : X b) (cs : Array Value) : Keeps X w (w.setRow b cs) :=
  ⟨by simp [World.setRow], fun k _ hk => setRow_other w b k cs (by rintro rfl; exact hk hb)⟩
theorem grown_setRow (w : World) (b : Nat) (cs : Array Value) : w.grownBy (w.setRow b cs) (some b) :=
  ⟨rfl, rfl, rfl, by simp [World.setRow], fun k _ hk => setRow_other w b k cs (fun e => hk (by rw [e]))⟩
theorem lies0 (w : World) (X : Nat → Prop) (sz : Nat) (cells : Nat → List Value) : Lies w X (.slice none 0 0) 0 sz cells := ⟨none, 0, rfl, Nat.le_refl _, fun _ => ⟨rfl, rfl⟩, fun a h => by simp at h, fun i hi => by omega⟩
theorem urep0 (w : World) (X : Nat → Prop) : URep w X (.slice none 0 0) [] := ⟨fun _ => undef, lies0 w X 2 _, fun i t h => by simp at h⟩
theorem tree_one (n : Int) (b : Bool) (v : Value) (h : v.oneCell' = true := by rfl) : (#[.int .i64 n, .slice none 0 0, .bool b, v, .slice none 0 0] : Array Value).all (·.oneCell') = true := by
  simp [h]
  exact ⟨rfl, rfl, rfl, rfl⟩
theorem own_ge {w : World} {base e sz n b : Nat} {d : Value} {xs : List Value} (h : w.ownsRow base e sz d n xs) (hb : d.ownBlock = some b) : base ≤ b ∧ b < w.heap.size := by
  rcases h.2 with ⟨rfl, _⟩ | ⟨g, cap, cur, rfl, h1, h2, _⟩
  · simp [Value.ownBlock] at hb
  · simp only [Value.ownBlock, Option.some.injEq] at hb
    subst hb
    exact ⟨h1, lt_of_some h2⟩

theorem default_any (d : Nat) (ih : DefaultC d) : DefaultC (d + 1) := by
  intro w X v fs hF hfs hdf
  have hF0 := hF
  have htags := fsB_tags hfs
  obtain ⟨A, c, rfl⟩ := hF.form
  refine calls_wk (args := [.slice A fs.length c]) Try.func12 rfl rfl ?_
  have hB3 : (w.alloc (.cells (Value.agg #[.int .i64 0, .slice none 0 0, .bool false, .slice none 0 0, .slice none 0 0]).cells 35)).heap.size = w.heap.size + 1 := by simp
  have hz3 := heap_alloc_last (w.alloc (.cells (Value.agg #[.int .i64 0, .slice none 0 0, .bool false, .slice none 0 0, .slice none 0 0]).cells 35)) (.cells (Value.agg #[.int .i64 0, .slice none 0 0, .bool false, .slice none 0 0, .slice none 0 0]).cells 35)
  rw [hB3] at hz3
  refine wk_seq ?_
  refine wk_reg (id := 0) ?_
  refine wk_alloc (t := 35) (i := Try.t35) (by kernel_rfl) rfl rfl ?_
  refine wk_nil ?_
  refine wk_seq ?_
  refine wk_reg (id := 1) ?_
  refine wk_alloc (t := 35) (i := Try.t35) (by kernel_rfl) rfl rfl ?_
  refine wk_nil ?_
  refine wk_seq ?_
  refine wk_seq ?_
  refine wk_reg (id := 2) ?_
  refine wk_move rfl rfl ?_
  refine wk_slen rfl Try.underlying23 rfl ?_
  refine wk_move rfl rfl ?_
  refine wk_nil ?_
  refine wk_loop (fun i : Nat × Value × List (List Value) => [(2, .pointer (some ⟨w.heap.size, 0, none⟩)), (3, .pointer (some ⟨w.heap.size + 1, 0, none⟩)), (7, .slice A fs.length c), (8, .int .i64 (fs.length : Int)), (9, .int .i64 (i.1 : Int))])
    (fun i w' => i.1 ≤ fs.length ∧ i.2.2.length = i.1 ∧ (∀ r ∈ i.2.2, r.length = 5) ∧ w'.ownsRow (w.heap.size + 2) 35 5 i.2.1 i.2.2.length i.2.2.flatten ∧
      (∀ (j : Nat) (r : List Value) (f : Fld), i.2.2[j]? = some r → fs[j]? = some f → TRep w' (fun b => b ≤ w.heap.size + 1 ∨ i.2.1.ownBlock = some b) r (dTree d f)) ∧
      w'.heap[w.heap.size + 1]? = some (.cells #[.int .i64 0, .slice none 0 0, .bool false, i.2.1, .slice none 0 0] 35 (0, 0)) ∧
      w'.heap[w.heap.size]? = some (.cells #[.int .i64 0, .slice none 0 0, .bool false, .slice none 0 0, .slice none 0 0] 35 (0, 0)) ∧ Below w.heap.size w w') (fun i => fs.length - i.1) (0, .slice none 0 0, [])
    (congrArg (fun z => [some (Value.pointer (some ⟨w.heap.size, 0, none⟩)), some (Value.pointer (some ⟨z, 0, none⟩)), some (Value.slice A fs.length c), some (Value.int .i64 (fs.length : Int)), some (Value.int .i64 0)]) hB3)
    ⟨Nat.zero_le _, rfl, by simp, World.ownsRow_nil _ _ _ _, by simp, hz3, heap_prev, below2 _ _ _⟩ ?_
  rintro ⟨i, lv, rows⟩ w1 ⟨hi, hrl, hr5, hown, htr, h3, h2, hb⟩
  simp only at hi hrl hr5 hown htr h3
  by_cases hlt : i < fs.length
  · have c2 : cmp .lss (i : Int) (fs.length : Int) = some true := by simp [cmp, hlt]
    obtain ⟨b, c2, sv2, e1, hbb, hsub, hcell⟩ := hF0.at hlt
    simp only [Value.slice.injEq] at e1
    obtain ⟨rfl, _, rfl⟩ := e1
    have hcell1 : ∀ j u, (fldV fs[i] sv2)[j]? = some u → w1.cell? ((⟨b, 0 + i * 8, none⟩ : Addr).add j) = some u := fun j u hj => (World.cell?_of_block (by rw [add_addr]; exact hb.block b hbb)).trans (hcell j u hj)
    have hnx : IntKind.i64.wrap ((i : Int) + 1) = ((i + 1 : Nat) : Int) := i64w ((i : Int) + 1) (by omega) (by omega)
    have cn : cmp .geq fs[i].null 0 = some (decide (0 ≤ fs[i].null)) := rfl
    have c10 : cmp .eql fs[i].kind 10 = some (fs[i].kind == 10) := rfl
    have hw1 : w.heap.size + 1 < w1.heap.size := lt_of_some h3
    have hfsi : fs[i]? = some fs[i] := List.getElem?_eq_getElem hlt
    refine wk_seq ?_
    refine wk_reg (id := 3) ?_
    refine wk_cmp rfl rfl (by with_reducible assumption) rfl ?_
    refine wk_nil ?_
    refine wk_seq ?_
    refine wk_condT rfl ?_
    refine wk_skip ?_
    refine wk_seq ?_
    refine wk_block ?_
    refine wk_seq ?_
    refine wk_reg (id := 4) ?_
    refine wk_idx (i := Try.t50) rfl rfl Try.underlying23 (by kernel_rfl) hlt rfl ?_
    refine wk_loadA (i := Try.t50) rfl Try.underlying50 rfl (by kernel_rfl) (vs := fldV fs[i] sv2) rfl hcell1 rfl ?_
    refine wk_alloc (t := 50) (i := Try.t50) (by kernel_rfl) rfl rfl ?_
    refine wk_storeNew (i := Try.t50) rfl rfl (by kernel_rfl) rfl rfl (fldV_one hsub.one) ?_
    refine wk_nil ?_
    refine wk_seq ?_
    refine wk_reg (id := 5) ?_
    refine wk_field (f := 5) (i := Try.t2) rfl Try.underlying50 rfl (by kernel_rfl) (by decide) rfl ?_
    refine wk_load rfl Try.underlying2 rfl (by exact cell_new rfl) rfl ?_
    refine wk_field (f := 3) (i := Try.t3) rfl Try.underlying50 rfl (by kernel_rfl) (by decide) rfl ?_
    refine wk_load rfl Try.underlying3 rfl (by exact cell_new rfl) rfl ?_
    refine wk_cmp rfl rfl (by with_reducible assumption) rfl ?_
    refine wk_build (vs := [(0, .int .i64 fs[i].dflt), (2, .bool (decide (0 ≤ fs[i].null)))]) (cells := #[.int .i64 fs[i].dflt, .slice none 0 0, .bool (decide (0 ≤ fs[i].null)), .slice none 0 0, .slice none 0 0]) rfl rfl rfl ?_
    refine wk_alloc (t := 35) (i := Try.t35) (by kernel_rfl) rfl rfl ?_
    refine wk_storeNew (i := Try.t35) rfl rfl (by kernel_rfl) rfl rfl (tree_one _ _ _) ?_
    obtain ⟨wB, hwB⟩ : ∃ wB, wB = (w1.alloc (.cells (fldV fs[i] sv2).toArray 50)).alloc (.cells #[.int .i64 fs[i].dflt, .slice none 0 0, .bool (decide (0 ≤ fs[i].null)), .slice none 0 0, .slice none 0 0] 35) := ⟨_, rfl⟩
    have hsB : wB.heap.size = w1.heap.size + 2 := by rw [hwB]; simp
    have hA1 : (w1.alloc (.cells (fldV fs[i] sv2).toArray 50)).heap.size = w1.heap.size + 1 := by simp
    have hF5 : wB.heap[w1.heap.size]? = some (.cells (fldV fs[i] sv2).toArray 50 (0, 0)) := by rw [hwB]; exact heap_prev
    have hT6 : wB.heap[w1.heap.size + 1]? = some (.cells #[.int .i64 fs[i].dflt, .slice none 0 0, .bool (decide (0 ≤ fs[i].null)), .slice none 0 0, .slice none 0 0] 35 (0, 0)) := by
      rw [hwB, ← hA1]; exact heap_alloc_last _ _
    have hbB : Below w1.heap.size w1 wB := by rw [hwB]; exact below2 _ _ _
    rw [hA1, ← hwB]
    clear hwB hA1
    have hdd := dfB_at hdf (List.getElem_mem hlt)
    refine wk_nil ?_
    refine wk_seq ?_
    refine wk_seq ?_
    refine wk_reg (id := 6) ?_
    refine wk_field (f := 0) (i := Try.t3) rfl Try.underlying50 rfl (by kernel_rfl) (by decide) rfl ?_
    refine wk_load rfl Try.underlying3 rfl (by exact cell_blk (by with_reducible assumption) rfl) rfl ?_
    refine wk_cmp rfl rfl (by with_reducible assumption) rfl ?_
    refine wk_nil ?_
    refine wk_join (fun v3 : Value => [(2, .pointer (some ⟨w.heap.size, 0, none⟩)), (3, .pointer (some ⟨w.heap.size + 1, 0, none⟩)), (6, .pointer (some ⟨w1.heap.size + 1, 0, none⟩)), (7, .slice (some ⟨b, 0, none⟩) fs.length c), (8, .int .i64 (fs.length : Int)), (9, .int .i64 (i : Int))])
      (fun v3 w' => w'.heap[w1.heap.size + 1]? = some (.cells #[.int .i64 fs[i].dflt, .slice none 0 0, .bool (decide (0 ≤ fs[i].null)), v3, .slice none 0 0] 35 (0, 0)) ∧ Below w1.heap.size w1 w' ∧
        TRep w' (fun b => b < w1.heap.size) [.int .i64 fs[i].dflt, .slice none 0 0, .bool (decide (0 ≤ fs[i].null)), v3, .slice none 0 0] (dTree d fs[i])) (b := fs[i].kind == 10) rfl ?_ ?_ ?_
    · intro hk
      have hk10 : fs[i].kind = 10 := by simpa using hk
      refine wk_reg (id := 7) ?_
      refine wk_field (f := 7) (i := Try.t23) rfl Try.underlying50 rfl (by kernel_rfl) (by decide) rfl ?_
      refine wk_load rfl Try.underlying23 rfl (by exact cell_blk (by with_reducible assumption) rfl) rfl ?_
      refine wk_call Try.call12 (vs := [sv2]) rfl rfl ((ih wB X sv2 fs[i].sub (hsub.keep (keeps_below (hb.trans (hbB.mono hb.size)) (Nat.le_refl _))) (fsB_sub hfs (List.getElem_mem hlt)) hdd.2).mono ?_)
      rintro e w2 ⟨vs, rfl, hT, hb2⟩
      refine ⟨_, rfl, ?_⟩
      have hdt : dTree d fs[i] = .mk fs[i].dflt [] (decide (0 ≤ fs[i].null)) (sDefault d fs[i].sub).L [] := by unfold dTree; rw [if_pos hk10]
      obtain ⟨T, hTe⟩ : ∃ T, sDefault d fs[i].sub = T := ⟨_, rfl⟩
      rw [hTe] at hT hdt
      obtain ⟨N', S', nl', L', U', sv', lv', uv', cells', hN', hS', hL', hU', hr'⟩ := hT
      have hT62 := (hb2.block _ (lt_of_some hT6)).trans hT6
      have hb12 := hbB.trans (hb2.mono hbB.size)
      refine wk_fieldOp (v := lv') rfl Try.underlying35 rfl Try.underlying32 rfl rfl rfl ?_
      refine wk_field (f := 3) (i := Try.t32) rfl Try.underlying35 rfl (by kernel_rfl) (by decide) rfl ?_
      refine wk_store1 (i := Try.t32) rfl rfl hT62 (by kernel_rfl) rfl hL'.one (by obtain ⟨A', c', rfl, _⟩ := hL'; rfl) (show 3 < 5 by decide) ?_
      refine wk_nil ?_
      have hkS : Keeps (fun b => b < wB.heap.size) w2 (w2.setRow (w1.heap.size + 1) (#[.int .i64 fs[i].dflt, .slice none 0 0, .bool (decide (0 ≤ fs[i].null)), .slice none 0 0, .slice none 0 0].setIfInBounds 3 lv')) := keeps_setRow w2 (by omega) _
      refine wk_joinEnd lv' rfl ⟨setRow_heap _ _ _ _ _ _ hT62, below_setRow hb12 (by omega) _, ?_⟩
      rw [hdt]
      exact .mk _ _ _ L' _ _ _ _ cells' hdd.1 (.inl ⟨rfl, rfl⟩) ((hL'.keep hkS).mono (fun b _ h => by omega)) (urep0 _ _) (fun j t ht => ((hr' j t ht).keep hkS).mono (fun b _ h => by omega))
    · intro hk
      have hk10 : ¬ fs[i].kind = 10 := by simpa using hk
      refine wk_skip ?_
      refine wk_joinEnd (.slice none 0 0) rfl ⟨hT6, hbB, ?_⟩
      unfold dTree
      rw [if_neg hk10]
      exact .mk _ _ _ [] _ _ _ _ (fun _ => []) hdd.1 (.inl ⟨rfl, rfl⟩) (lies0 _ _ _ _) (urep0 _ _) (fun j t h => by simp at h)
    rintro v3 w2 ⟨hT62, hb2, hrow⟩
    have hown2 : w2.ownsRow (w.heap.size + 2) 35 5 lv rows.length rows.flatten :=
      World.ownsRow.kept hown (row := none) ⟨hb2.os, hb2.tape, hb2.output, hb2.size, fun k hk _ => hb2.block k hk⟩ (by cases lv.ownBlock <;> simp)
    have h32 := (hb2.block _ hw1).trans h3
    have h22 := (hb2.block _ (lt_of_some h2)).trans h2
    have hbw2 := hb.trans (hb2.mono hb.size)
    have hro5 := (hrow.facts).1
    have hro1 := (hrow.facts).2
    refine wk_reg (id := 8) ?_
    refine wk_field (f := 3) (i := Try.t32) rfl Try.underlying35 rfl (by kernel_rfl) (by decide) rfl ?_
    refine wk_load rfl Try.underlying32 rfl (by exact cell_blk (by with_reducible assumption) rfl) rfl ?_
    refine wk_loadA (i := Try.t35) rfl Try.underlying35 rfl (by kernel_rfl) rfl (by exact cells_blk (by with_reducible assumption)) rfl ?_
    refine wk_buildS (e := 35) (vs := [(0, .agg #[.int .i64 fs[i].dflt, .slice none 0 0, .bool (decide (0 ≤ fs[i].null)), v3, .slice none 0 0])]) (cells := #[.int .i64 fs[i].dflt, .slice none 0 0, .bool (decide (0 ≤ fs[i].null)), v3, .slice none 0 0]) (ie := Try.t35) (zv := .agg #[.int .i64 0, .slice none 0 0, .bool false, .slice none 0 0, .slice none 0 0]) rfl Try.underlying32 (by kernel_rfl) rfl rfl rfl (by kernel_rfl) rfl ?_
    have hsz2 : w1.heap.size ≤ w2.heap.size := hb2.size
    refine wk_appendR (R := fun d' w' => w'.ownsRow (w.heap.size + 2) 35 5 d' (rows.length + 1) (rows.flatten ++ [.int .i64 fs[i].dflt, .slice none 0 0, .bool (decide (0 ≤ fs[i].null)), v3, .slice none 0 0]) ∧
        (w2.alloc (.cells #[.int .i64 fs[i].dflt, .slice none 0 0, .bool (decide (0 ≤ fs[i].null)), v3, .slice none 0 0] 35)).grownBy w' lv.ownBlock ∧ (d'.ownBlock = lv.ownBlock ∨ d'.ownBlock = some (w2.heap.size + 1))) rfl rfl
      (fun ρ o ho hx hy => app_struct Try.underlying32 (show Try.prog.info? 35 = some Try.t35 by kernel_rfl) rfl rfl rfl rfl (by decide) (by decide) hown2 (by omega) (by omega) hro5 rfl (by simpa [List.all_eq_true] using hro1) ρ o ho hx hy) rfl ?_
    rintro dd w4 ⟨hownd, hg, hor⟩
    have hgT : ∀ {k : Nat}, k < w2.heap.size → lv.ownBlock ≠ some k → w4.heap[k]? = w2.heap[k]? := fun {k} hk hne => by
      rw [hg.block k (by simp; omega) (fun e => hne e.symm), (Below.heap_alloc w2 _ k hk)]
    have hlvo : ∀ {k : Nat}, lv.ownBlock = some k → w.heap.size + 2 ≤ k ∧ k < w1.heap.size := fun h => own_ge hown h
    have h34 : w4.heap[w.heap.size + 1]? = some (.cells #[.int .i64 0, .slice none 0 0, .bool false, lv, .slice none 0 0] 35 (0, 0)) := (hgT (by omega) (fun e => by have := hlvo e; omega)).trans h32
    have h24 : w4.heap[w.heap.size]? = some (.cells #[.int .i64 0, .slice none 0 0, .bool false, .slice none 0 0, .slice none 0 0] 35 (0, 0)) := (hgT (by omega) (fun e => by have := hlvo e; omega)).trans h22
    have hs4 : w2.heap.size ≤ w4.heap.size := by have := hg.size; simp at this; omega
    have hbw4 : Below w.heap.size w w4 := (hbw2.trans ((Below.refl w.heap.size _).alloc hbw2.size _)).grown hg (by simp; have := hbw2.size; omega) (fun k hk => by have := hlvo hk; omega)
    have hkA : Keeps (fun b => b ≤ w.heap.size + 1 ∨ lv.ownBlock = some b ∨ w2.heap.size ≤ b) w2 w4 := ⟨hs4, fun k hk hx => hgT hk (fun e => hx (.inr (.inl e)))⟩
    have hdone : dd.oneCell' = true ∧ dd.cells = #[dd] := by rcases hownd.2 with ⟨rfl, _⟩ | ⟨g, cap, cur, rfl, _⟩ <;> exact ⟨rfl, rfl⟩
    refine wk_field (f := 3) (i := Try.t32) rfl Try.underlying35 rfl (by kernel_rfl) (by decide) rfl ?_
    refine wk_store1 (i := Try.t32) rfl rfl h34 (by kernel_rfl) rfl hdone.1 hdone.2 (show 3 < 5 by decide) ?_
    refine wk_nil ?_
    refine wk_blockEnd ?_
    refine wk_reg (id := 9) ?_
    refine wk_add rfl rfl rfl ?_
    refine wk_move rfl rfl ?_
    refine wk_nil ?_
    have hkS : Keeps (fun b => b ≤ w.heap.size + 1 ∨ lv.ownBlock = some b ∨ w2.heap.size ≤ b) w4 (w4.setRow (w.heap.size + 1) (#[.int .i64 0, .slice none 0 0, .bool false, lv, .slice none 0 0].setIfInBounds 3 dd)) := keeps_setRow w4 (.inl (Nat.le_refl _)) _
    have hk2 := hkA.trans hkS
    have hfin : ∀ b, b ≤ w.heap.size + 1 ∨ dd.ownBlock = some b → b ≤ w.heap.size + 1 ∨ lv.ownBlock = some b ∨ w2.heap.size ≤ b := by
      rintro b (h | h)
      · exact .inl h
      · rcases hor with e | e
        · exact .inr (.inl (e ▸ h))
        · rw [e] at h; cases h; exact .inr (.inr (by omega))
    have hk1 : Keeps (fun b => b ≤ w.heap.size + 1 ∨ lv.ownBlock = some b) w1 w2 := keeps_below hb2 (Nat.le_refl _)
    refine wk_loopNext (i + 1, dd, rows ++ [[.int .i64 fs[i].dflt, .slice none 0 0, .bool (decide (0 ≤ fs[i].null)), v3, .slice none 0 0]]) (by simp only; omega)
      (congrArg (fun z => [some (Value.pointer (some ⟨w.heap.size, 0, none⟩)), some (Value.pointer (some ⟨w.heap.size + 1, 0, none⟩)), some (Value.slice (some ⟨b, 0, none⟩) fs.length c), some (Value.int .i64 (fs.length : Int)), some (Value.int .i64 z)]) hnx)
      ⟨by simp only; omega, by simp [hrl], ?_, ?_, ?_, setRow_heap _ _ _ _ _ _ h34, (setRow_other _ _ _ _ (by omega)).trans h24, below_setRow hbw4 (by omega) _⟩
    · intro r hr
      rcases List.mem_append.1 hr with hr | hr
      · exact hr5 r hr
      · obtain rfl := List.mem_singleton.1 hr; rfl
    · have := World.ownsRow.kept hownd (grown_setRow w4 (w.heap.size + 1) (#[.int .i64 0, .slice none 0 0, .bool false, lv, .slice none 0 0].setIfInBounds 3 dd)) (.inr (fun e => by have := own_ge hownd e; omega))
      simpa using this
    · intro j r f hj hf
      by_cases hjl : j < rows.length
      · rw [List.getElem?_append_left hjl] at hj
        refine (((htr j r f hj hf).keep hk1).mono (fun b hb h => ?_) |>.keep hk2).mono (fun b _ h => hfin b h)
        rcases h with h | h | h
        · exact .inl h
        · exact .inr h
        · omega
      · have hji : j = rows.length := by
          have := (List.getElem?_eq_some_iff.1 hj).1
          simp only [List.length_append, List.length_cons, List.length_nil] at this
          omega
        subst hji
        rw [List.getElem?_append_right (Nat.le_refl _)] at hj
        simp only [Nat.sub_self, List.getElem?_cons_zero, Option.some.injEq] at hj
        subst hj
        rw [hrl, hfsi] at hf
        cases hf
        refine ((hrow.mono (fun b hb h => ?_)).keep hk2).mono (fun b _ h => hfin b h)
        rcases h with h | h | h
        · omega
        · exact (hlvo h).2
        · omega
  · have c2 : cmp .lss (i : Int) (fs.length : Int) = some false := by simp [cmp]; omega
    refine wk_seq ?_
    refine wk_reg (id := 3) ?_
    refine wk_cmp rfl rfl (by with_reducible assumption) rfl ?_
    refine wk_nil ?_
    refine wk_seq ?_
    refine wk_condF rfl ?_
    refine wk_loopExit ?_
    refine wk_seq ?_
    refine wk_reg (id := 10) ?_
    refine wk_loadA (i := Try.t35) rfl Try.underlying35 rfl (by kernel_rfl) rfl (by exact cells_blk (by with_reducible assumption)) rfl ?_
    have hlone : lv.oneCell' = true := by rcases hown.2 with ⟨rfl, _⟩ | ⟨g, cap, cur, rfl, _⟩ <;> rfl
    refine wk_storeRow (i := Try.t35) (cs := #[.int .i64 0, .slice none 0 0, .bool false, lv, .slice none 0 0]) rfl rfl h2 (by kernel_rfl) rfl rfl (tree_one _ _ _ hlone) ?_
    refine wk_nil ?_
    have hk : Keeps (fun b => b ≤ w.heap.size + 1) w1 (w1.setRow w.heap.size #[.int .i64 0, .slice none 0 0, .bool false, lv, .slice none 0 0]) := keeps_setRow w1 (by omega) _
    have hfl : rows.length = fs.length := by omega
    refine wk_retc r0 rfl rfl (loadVar_cells (vs := [.int .i64 0, .slice none 0 0, .bool false, lv, .slice none 0 0]) Try.underlying35 rfl (show Try.prog.info? 35 = some Try.t35 by kernel_rfl) rfl (cells_blk (setRow_heap _ _ _ _ _ _ h2))) ⟨_, rfl, ?_, below_setRow hb (Nat.le_refl _) _⟩
    have hsd : sDefault (d + 1) fs = .mk 0 [] false (fs.map (dTree d)) [] := rfl
    rw [hsd]
    refine .mk _ _ _ _ _ _ _ _ (fun i => match rows[i]? with | some r => r | none => []) rfl (.inl ⟨rfl, rfl⟩) ?_ (urep0 _ _) ?_
    · have h1 := lies_of_own (X := fun b => b ≤ w.heap.size + 1) hown hr5 (by decide) (fun b _ h1 h2 => by omega)
      rw [hfl] at h1
      rw [List.length_map]
      exact (h1.keep hk).mono (fun b _ h => by omega)
    · intro j t ht
      rw [List.getElem?_map] at ht
      cases hfj : fs[j]? with
      | none => rw [hfj] at ht; cases ht
      | some f =>
        rw [hfj] at ht
        cases ht
        have hjl : j < rows.length := by rw [hfl]; exact (List.getElem?_eq_some_iff.1 hfj).1
        have hrj : rows[j]? = some rows[j] := List.getElem?_eq_getElem hjl
        simp only [hrj]
        exact (((htr j _ f hrj hfj).mono (fun b _ h => .inl h)).keep hk).mono (fun b _ h => by omega)
theorem default_all (d : Nat) : DefaultC d := by
  induction d with
  | zero => intro w X v fs _ h; cases h
  | succ d ih => exact default_any d ih
end Go.Proofs.Ytfijlaopidgdpaa
