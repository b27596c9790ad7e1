/-
  The reader's methods, walked: texts, octets, tags.
-/
import Derived.Test.YtbcfmhgcpijfnaaDoorRK2
import Derived.Test.YtbcfmhgcpijfnaaDoorTagMap
set_option linter.unusedVariables false
set_option linter.unusedSimpArgs false
namespace Go.Proofs.YtbcfmhgcpijfnaaDoor
open Go Go.RowKit Go.Proofs.Eng
set_option maxRecDepth 20000
set_option maxHeartbeats 4000000

theorem below_row {B b : Nat} {w w' : World} (h : Below B w w') (hb : B ≤ b) (cs : Array Value) : Below B w (w'.setRow b cs) :=
  ⟨h.os, h.tape, h.output, by simpa [World.setRow] using h.size, fun k hk => (setRow_other w' b k cs (by omega)).trans (h.block k hk)⟩
theorem i16_range (n : Int) : -32768 ≤ IntKind.i16.wrap n ∧ IntKind.i16.wrap n < 32768 := by
  simp [IntKind.wrap, IntKind.bits, IntKind.signed]
  split <;> omega
theorem rUv_bound (s : RS) : (rUv s).1 < 4294967296 := by
  unfold rUv
  cases h : rUvL 4 1 0 s.rest with
  | none => simp
  | some p =>
    obtain ⟨x, r⟩ := p
    have := (rUvL_lt 4 1 0 _ _ _ h (by omega)).1
    simp only
    omega
theorem rSpan_len (l : Int) (s : RS) : ∀ b, (rSpan l s).1 = some b → b.length = l.toNat := by
  intro b h
  unfold rSpan at h
  split at h
  · cases h
  · rename_i hl
    split at h
    · cases h
    · rename_i r hr
      cases h
      simp only [RS.rest, hr] at hl
      simp
      omega

theorem rd_String : RContract Tryd.prog 75 41 .str := by
  rintro w X rb s hr hX hlt
  refine calls_wk (args := [.pointer (some ⟨rb, 0, none⟩)]) Tryd.func41 rfl rfl ?_
  refine wk_seq ?_
  refine wk_reg (id := 0) ?_
  refine wk_assign rfl rfl ?_
  refine wk_nil ?_
  refine wk_seq ?_
  refine wk_reg (id := 1) ?_
  refine wk_move rfl rfl ?_
  refine wk_call Tryd.call32 (vs := [.pointer (some ⟨rb, 0, none⟩)]) rfl rfl ((rd_Int16 w X rb s hr hX hlt).mono ?_)
  rintro e w1 ⟨v1, rfl, ⟨_, hcv, hrep⟩, hr1, hg1⟩
  refine ⟨_, rfl, ?_⟩
  have hp : rprim .i16 s = ([.int .i16 (rI .i16 2 s).1], (rI .i16 2 s).2) := rfl
  rw [hp] at hcv hr1
  cases hcv
  have := hrep.int_inv
  subst this
  generalize hp0 : rI .i16 2 s = p0 at *
  have hrr : -32768 ≤ p0.1 ∧ p0.1 < 32768 := by rw [← hp0]; exact i16_range _
  obtain ⟨r, s1⟩ := p0
  simp only at hrr hr1
  have hw := i64wr r (by omega) (by omega)
  refine wk_assign rfl rfl ?_
  refine wk_nil ?_
  refine wk_seq ?_
  refine wk_reg (id := 2) ?_
  refine wk_move rfl rfl ?_
  refine wk_move rfl rfl ?_
  refine wk_convV rfl Tryd.underlying29 Tryd.underlying3 (by with_reducible assumption) rfl ?_
  refine wk_call Tryd.call50 (vs := [.pointer (some ⟨rb, 0, none⟩), .int .i64 r]) rfl rfl ((rd_Span w1 X rb s1 r hr1 hX).mono ?_)
  rintro e w2 ⟨v2, rfl, hs2, hr2, hg2⟩
  refine ⟨_, rfl, ?_⟩
  refine wk_bstr rfl Tryd.underlying22 Tryd.underlying5 Tryd.underlying9 hs2 rfl (fun b hb => ?_)
  refine wk_assign rfl rfl ?_
  refine wk_nil ?_
  have e : rprim .str s = ([.str (orNil (rSpan r s1).1)], (rSpan r s1).2) := by show rStr (rI .i16 2 s) = _; rw [hp0]; rfl
  rw [e]
  exact wk_ret r0 rfl rfl ⟨_, rfl, ⟨.str b.data.toList, by rw [hb], .str b⟩, hr2, grown_trans1 hg1 hg2⟩
theorem rd_CompactString : RContract Tryd.prog 75 40 .cstr := by
  rintro w X rb s hr hX hlt
  refine calls_wk (args := [.pointer (some ⟨rb, 0, none⟩)]) Tryd.func40 rfl rfl ?_
  refine wk_seq ?_
  refine wk_reg (id := 0) ?_
  refine wk_assign rfl rfl ?_
  refine wk_nil ?_
  refine wk_seq ?_
  refine wk_reg (id := 1) ?_
  refine wk_move rfl rfl ?_
  refine wk_call Tryd.call48 (vs := [.pointer (some ⟨rb, 0, none⟩)]) rfl rfl ((rd_Uvarint w X rb s hr hX).mono ?_)
  rintro e w1 ⟨rfl, hr1, hg1⟩
  refine ⟨_, rfl, ?_⟩
  have hub := rUv_bound s
  have hcl : rCl s = (((rUv s).1 : Int) - 1, (rUv s).2) := rfl
  generalize hp0 : rUv s = p0 at *
  obtain ⟨n, s1⟩ := p0
  simp only at hub hr1 hcl
  have hw1 := i64wr (n : Int) (by omega) (by omega)
  obtain ⟨r, hrn⟩ : ∃ r : Int, (n : Int) - 1 = r := ⟨_, rfl⟩
  have hw2 : IntKind.i64.wrap ((n : Int) - 1) = r := (i64wr _ (by omega) (by omega)).trans hrn
  rw [hrn] at hcl
  refine wk_convV rfl Tryd.underlying64 Tryd.underlying3 (by with_reducible assumption) rfl ?_
  refine wk_subV rfl rfl (by with_reducible assumption) rfl ?_
  refine wk_assign rfl rfl ?_
  refine wk_nil ?_
  refine wk_seq ?_
  refine wk_reg (id := 2) ?_
  refine wk_move rfl rfl ?_
  refine wk_move rfl rfl ?_
  refine wk_call Tryd.call50 (vs := [.pointer (some ⟨rb, 0, none⟩), .int .i64 r]) rfl rfl ((rd_Span w1 X rb s1 r hr1 hX).mono ?_)
  rintro e w2 ⟨v2, rfl, hs2, hr2, hg2⟩
  refine ⟨_, rfl, ?_⟩
  refine wk_bstr rfl Tryd.underlying22 Tryd.underlying5 Tryd.underlying9 hs2 rfl (fun b hb => ?_)
  refine wk_assign rfl rfl ?_
  refine wk_nil ?_
  have e : rprim .cstr s = ([.str (orNil (rSpan r s1).1)], (rSpan r s1).2) := by show rStr (rCl s) = _; rw [hcl]; rfl
  rw [e]
  exact wk_ret r0 rfl rfl ⟨_, rfl, ⟨.str b.data.toList, by rw [hb], .str b⟩, hr2, grown_trans1 hg1 hg2⟩
theorem rd_Bytes : RContract Tryd.prog 75 47 .byt := by
  rintro w X rb s hr hX hlt
  refine calls_wk (args := [.pointer (some ⟨rb, 0, none⟩)]) Tryd.func47 rfl rfl ?_
  refine wk_seq ?_
  refine wk_reg (id := 0) ?_
  refine wk_assign rfl rfl ?_
  refine wk_nil ?_
  refine wk_seq ?_
  refine wk_reg (id := 1) ?_
  refine wk_move rfl rfl ?_
  refine wk_call Tryd.call31 (vs := [.pointer (some ⟨rb, 0, none⟩)]) rfl rfl ((rd_Int32 w X rb s hr hX hlt).mono ?_)
  rintro e w1 ⟨v1, rfl, ⟨_, hcv, hrep⟩, hr1, hg1⟩
  refine ⟨_, rfl, ?_⟩
  have hp : rprim .i32 s = ([.int .i32 (rI .i32 4 s).1], (rI .i32 4 s).2) := rfl
  rw [hp] at hcv hr1
  cases hcv
  have := hrep.int_inv
  subst this
  generalize hp0 : rI .i32 4 s = p0 at *
  have hrr : -2147483648 ≤ p0.1 ∧ p0.1 < 2147483648 := by rw [← hp0]; exact i32_range _
  obtain ⟨r, s1⟩ := p0
  simp only at hrr hr1
  have hw := i64wr r (by omega) (by omega)
  by_cases hl0 : r = -1
  · have c1 : cmp .eql r (-1) = some true := by simp [cmp, hl0]
    have e : rprim .byt s = ([.bytes (some [])], s1) := by show rByt (rI .i32 4 s) = _; rw [hp0]; unfold rByt; rw [if_pos hl0]
    rw [e]
    refine wk_assign rfl rfl ?_
    refine wk_nil ?_
    refine wk_seq ?_
    refine wk_seq ?_
    refine wk_reg (id := 2) ?_
    refine wk_move rfl rfl ?_
    refine wk_cmp rfl rfl (by with_reducible assumption) rfl ?_
    refine wk_nil ?_
    refine wk_condT rfl ?_
    refine wk_seq ?_
    refine wk_reg (id := 3) ?_
    refine wk_bs0 byteT rfl ?_
    refine wk_assign rfl rfl ?_
    refine wk_nil ?_
    have hb1 := below1 w1 (.cells #[] 5)
    have hlt1 : ¬ X w1.heap.size := fun hx => by have h1 := hlt _ hx; have h2 := hg1.size; omega
    have hrr1 : RdOK (w1.alloc (.cells #[] 5)) X 75 rb s1 := by obtain ⟨v, h1, h2⟩ := hr1; exact ⟨v, (hb1.block rb (lt_of_some h1)).trans h1, h2.keep ⟨hb1.size, fun b hb _ => hb1.block b hb⟩⟩
    exact wk_ret r0 rfl rfl ⟨_, rfl, ⟨_, rfl, .bytes _ [] ⟨w1.heap.size, 0, 0, 0, rfl, hlt1, by simp, rfl, Nat.le_refl _, fun i x h => by simp at h⟩⟩, hrr1, grown_trans1 hg1 (grown_below1 hb1)⟩
  · have c1 : cmp .eql r (-1) = some false := by simp [cmp, hl0]
    have e : rprim .byt s = ([.bytes (rSpan r s1).1], (rSpan r s1).2) := by show rByt (rI .i32 4 s) = _; rw [hp0]; unfold rByt; rw [if_neg hl0]
    rw [e]
    refine wk_assign rfl rfl ?_
    refine wk_nil ?_
    refine wk_seq ?_
    refine wk_seq ?_
    refine wk_reg (id := 2) ?_
    refine wk_move rfl rfl ?_
    refine wk_cmp rfl rfl (by with_reducible assumption) rfl ?_
    refine wk_nil ?_
    refine wk_condF rfl ?_
    refine wk_skip ?_
    refine wk_seq ?_
    refine wk_reg (id := 4) ?_
    refine wk_move rfl rfl ?_
    refine wk_move rfl rfl ?_
    refine wk_convV rfl Tryd.underlying21 Tryd.underlying3 (by with_reducible assumption) rfl ?_
    refine wk_call Tryd.call50 (vs := [.pointer (some ⟨rb, 0, none⟩), .int .i64 r]) rfl rfl ((rd_Span w1 X rb s1 r hr1 hX).mono ?_)
    rintro e w2 ⟨v2, rfl, hs2, hr2, hg2⟩
    refine ⟨_, rfl, ?_⟩
    refine wk_assign rfl rfl ?_
    refine wk_nil ?_
    refine wk_ret r0 rfl rfl ⟨_, rfl, ⟨_, rfl, ?_⟩, hr2, grown_trans1 hg1 hg2⟩
    cases hq : (rSpan r s1).1 with
    | none => rw [hq] at hs2; rw [show v2 = .slice none 0 0 from hs2]; exact .bnil
    | some b => rw [hq] at hs2; exact .bytes _ _ hs2
theorem rd_CompactBytes : RContract Tryd.prog 75 46 .cbyt := by
  rintro w X rb s hr hX hlt
  refine calls_wk (args := [.pointer (some ⟨rb, 0, none⟩)]) Tryd.func46 rfl rfl ?_
  refine wk_seq ?_
  refine wk_reg (id := 0) ?_
  refine wk_assign rfl rfl ?_
  refine wk_nil ?_
  refine wk_seq ?_
  refine wk_reg (id := 1) ?_
  refine wk_move rfl rfl ?_
  refine wk_call Tryd.call48 (vs := [.pointer (some ⟨rb, 0, none⟩)]) rfl rfl ((rd_Uvarint w X rb s hr hX).mono ?_)
  rintro e w1 ⟨rfl, hr1, hg1⟩
  refine ⟨_, rfl, ?_⟩
  have hub := rUv_bound s
  have hcl : rCl s = (((rUv s).1 : Int) - 1, (rUv s).2) := rfl
  generalize hp0 : rUv s = p0 at *
  obtain ⟨n, s1⟩ := p0
  simp only at hub hr1 hcl
  have hw1 := i64wr (n : Int) (by omega) (by omega)
  obtain ⟨r, hrn⟩ : ∃ r : Int, (n : Int) - 1 = r := ⟨_, rfl⟩
  have hw2 : IntKind.i64.wrap ((n : Int) - 1) = r := (i64wr _ (by omega) (by omega)).trans hrn
  rw [hrn] at hcl
  by_cases hl0 : r = -1
  · have c1 : cmp .eql r (-1) = some true := by simp [cmp, hl0]
    have e : rprim .cbyt s = ([.bytes (some [])], s1) := by show rByt (rCl s) = _; rw [hcl]; unfold rByt; rw [if_pos hl0]
    rw [e]
    refine wk_convV rfl Tryd.underlying64 Tryd.underlying3 (by with_reducible assumption) rfl ?_
    refine wk_subV rfl rfl (by with_reducible assumption) rfl ?_
    refine wk_assign rfl rfl ?_
    refine wk_nil ?_
    refine wk_seq ?_
    refine wk_seq ?_
    refine wk_reg (id := 2) ?_
    refine wk_move rfl rfl ?_
    refine wk_cmp rfl rfl (by with_reducible assumption) rfl ?_
    refine wk_nil ?_
    refine wk_condT rfl ?_
    refine wk_seq ?_
    refine wk_reg (id := 3) ?_
    refine wk_bs0 byteT rfl ?_
    refine wk_assign rfl rfl ?_
    refine wk_nil ?_
    have hb1 := below1 w1 (.cells #[] 5)
    have hlt1 : ¬ X w1.heap.size := fun hx => by have h1 := hlt _ hx; have h2 := hg1.size; omega
    have hrr1 : RdOK (w1.alloc (.cells #[] 5)) X 75 rb s1 := by obtain ⟨v, h1, h2⟩ := hr1; exact ⟨v, (hb1.block rb (lt_of_some h1)).trans h1, h2.keep ⟨hb1.size, fun b hb _ => hb1.block b hb⟩⟩
    exact wk_ret r0 rfl rfl ⟨_, rfl, ⟨_, rfl, .bytes _ [] ⟨w1.heap.size, 0, 0, 0, rfl, hlt1, by simp, rfl, Nat.le_refl _, fun i x h => by simp at h⟩⟩, hrr1, grown_trans1 hg1 (grown_below1 hb1)⟩
  · have c1 : cmp .eql r (-1) = some false := by simp [cmp, hl0]
    have e : rprim .cbyt s = ([.bytes (rSpan r s1).1], (rSpan r s1).2) := by show rByt (rCl s) = _; rw [hcl]; unfold rByt; rw [if_neg hl0]
    rw [e]
    refine wk_convV rfl Tryd.underlying64 Tryd.underlying3 (by with_reducible assumption) rfl ?_
    refine wk_subV rfl rfl (by with_reducible assumption) rfl ?_
    refine wk_assign rfl rfl ?_
    refine wk_nil ?_
    refine wk_seq ?_
    refine wk_seq ?_
    refine wk_reg (id := 2) ?_
    refine wk_move rfl rfl ?_
    refine wk_cmp rfl rfl (by with_reducible assumption) rfl ?_
    refine wk_nil ?_
    refine wk_condF rfl ?_
    refine wk_skip ?_
    refine wk_seq ?_
    refine wk_reg (id := 4) ?_
    refine wk_move rfl rfl ?_
    refine wk_move rfl rfl ?_
    refine wk_call Tryd.call50 (vs := [.pointer (some ⟨rb, 0, none⟩), .int .i64 r]) rfl rfl ((rd_Span w1 X rb s1 r hr1 hX).mono ?_)
    rintro e w2 ⟨v2, rfl, hs2, hr2, hg2⟩
    refine ⟨_, rfl, ?_⟩
    refine wk_assign rfl rfl ?_
    refine wk_nil ?_
    refine wk_ret r0 rfl rfl ⟨_, rfl, ⟨_, rfl, ?_⟩, hr2, grown_trans1 hg1 hg2⟩
    cases hq : (rSpan r s1).1 with
    | none => rw [hq] at hs2; rw [show v2 = .slice none 0 0 from hs2]; exact .bnil
    | some b => rw [hq] at hs2; exact .bytes _ _ hs2
theorem c_TagsSet (w : World) (base b0 k : Nat) (Y : Nat → Prop) (hY : ∀ b, base ≤ b → Y b) (mv val : Value) (acc : List (Nat × List UInt8)) (v : List UInt8) (hb0 : w.heap[b0]? = some (.cells #[mv] 42 (0, 0))) (hbase : base ≤ b0) (hbs : base ≤ w.heap.size) (hm : MapAt w base Y mv acc) (hs : acc.Pairwise (fun a b => a.1 < b.1)) (hv : BytesRep0 w Y val v) :
    Calls Tryd.prog 49 #[.pointer (some ⟨b0, 0, none⟩), .int .u32 (k : Int), val] w fun e w' => e = .returned (.tuple #[]) ∧ ∃ mv', w'.heap[b0]? = some (.cells #[mv'] 42 (0, 0)) ∧ MapAt w' base Y mv' (tagSet k v acc) ∧ Below base w w' ∧
      ∀ (b : Nat) (cs : Array Value) (t : TypeId), b ≠ b0 → w.heap[b]? = some (.cells cs t (0, 0)) → w'.heap[b]? = some (.cells cs t (0, 0)) := by
  refine calls_wk (args := [.pointer (some ⟨b0, 0, none⟩), .int .u32 (k : Int), val]) Tryd.func49 rfl rfl ?_
  have upd : ∀ (r : Nat) (ents : Array MapEntry) (cl : Nat) (w1 : World), w1.heap[b0]? = some (.cells #[.map (some r)] 42 (0, 0)) → w1.heap[r]? = some (.map ents cl) → base ≤ r → Below base w w1 → (∀ (b : Nat) (cs : Array Value) (t : TypeId), b ≠ b0 → w.heap[b]? = some (.cells cs t (0, 0)) → w1.heap[b]? = some (.cells cs t (0, 0))) →
      ∀ ents' cl', Go.MapKept.Stamped ents' cl' → TagsRep (World.setMap w1 r ents' cl') Y ents' (tagSet k v acc) → ∃ mv', (World.setMap w1 r ents' cl').heap[b0]? = some (.cells #[mv'] 42 (0, 0)) ∧ MapAt (World.setMap w1 r ents' cl') base Y mv' (tagSet k v acc) ∧ Below base w (World.setMap w1 r ents' cl') ∧
        ∀ (b : Nat) (cs : Array Value) (t : TypeId), b ≠ b0 → w.heap[b]? = some (.cells cs t (0, 0)) → (World.setMap w1 r ents' cl').heap[b]? = some (.cells cs t (0, 0)) := by
    intro r ents cl w1 h1 h2 h3 h4 h5 ents' cl' hst' hT
    have hne : ∀ (b : Nat) (cs : Array Value) (t : TypeId), w1.heap[b]? = some (.cells cs t (0, 0)) → b ≠ r := fun b cs t h e => by subst e; rw [h2] at h; cases h
    obtain ⟨s1, s2⟩ := setMap_at h2 ents' cl'
    exact ⟨.map (some r), (s2 b0 (hne _ _ _ h1)).trans h1, .inr ⟨r, ents', cl', rfl, h3, s1, hst', hT, tagSet_ne _ _ _⟩, h4.trans (setMap_below w1 h2 h3 ents' cl'), fun b cs t hb h => (s2 b (hne _ _ _ (h5 b cs t hb h))).trans (h5 b cs t hb h)⟩
  rcases hm with ⟨rfl, rfl⟩ | ⟨r, ents, cl, rfl, hr, hmr, hst, hT, _⟩
  · refine wk_seq ?_
    refine wk_seq ?_
    refine wk_reg (id := 0) ?_
    refine wk_move rfl rfl ?_
    refine wk_nilCheck rfl rfl ?_
    refine wk_field (f := 0) (i := Tryd.t40) rfl Tryd.underlying42 rfl (by kernel_rfl) (by decide) rfl ?_
    refine wk_load rfl Tryd.underlying40 rfl (by exact cell_blk (by with_reducible assumption) rfl) rfl ?_
    refine wk_eqnilm rfl rfl Tryd.underlying40 rfl ?_
    refine wk_nil ?_
    refine wk_condT rfl ?_
    refine wk_reg (id := 1) ?_
    refine wk_move rfl rfl ?_
    refine wk_makeMap rfl ?_
    have hb1 := below1 w (.map #[] 0)
    have h1 := (hb1.block b0 (lt_of_some hb0)).trans hb0
    have h2 := heap_alloc_new w (.map #[] 0)
    have hne : b0 ≠ w.heap.size := Nat.ne_of_lt (lt_of_some hb0)
    refine wk_nilCheck rfl rfl ?_
    refine wk_field (f := 0) (i := Tryd.t40) rfl Tryd.underlying42 rfl (by kernel_rfl) (by decide) rfl ?_
    refine wk_store1 (i := Tryd.t40) rfl rfl h1 (by kernel_rfl) rfl rfl rfl (show 0 < 1 by decide) ?_
    have h3 := setRow_heap _ _ _ (#[Value.map none].setIfInBounds 0 (.map (some w.heap.size))) _ _ h1
    have h4 := (setRow_other _ _ _ (#[Value.map none].setIfInBounds 0 (.map (some w.heap.size))) (Ne.symm hne)).trans h2
    have hbw : Below base w ((w.alloc (.map #[] 0)).setRow b0 (#[Value.map none].setIfInBounds 0 (.map (some w.heap.size)))) := below_row (hb1.mono hbs) hbase _
    refine wk_nil ?_
    refine wk_reg (id := 2) ?_
    refine wk_move rfl rfl ?_
    refine wk_nilCheck rfl rfl ?_
    refine wk_field (f := 0) (i := Tryd.t40) rfl Tryd.underlying42 rfl (by kernel_rfl) (by decide) rfl ?_
    refine wk_load (v := .map (some w.heap.size)) rfl Tryd.underlying40 rfl (cell_blk h3 rfl) rfl ?_
    refine wk_move rfl rfl ?_
    refine wk_move rfl rfl ?_
    refine wk_mapUpdate (Y := Y) (tl := []) rfl rfl rfl Tryd.underlying40 Tryd.underlying64 h4 (hY _ hbs) (Go.MapKept.stamped_empty 0) ⟨[], rfl, List.Perm.refl _, fun i e h => by simp at h⟩ (by simp) (hv.keep ((Keeps.of_below hbw).mono hY)) (fun ents' cl' hst' hT => ?_)
    refine wk_nil ?_
    exact wk_end0 (fun _ _ h => h) rfl ⟨rfl, upd _ _ _ _ h3 h4 hbs hbw (fun b cs t hb h => by
      rw [setRow_other _ _ _ _ hb]
      exact (hb1.block b (lt_of_some h)).trans h) ents' cl' hst' hT⟩
  · refine wk_seq ?_
    refine wk_seq ?_
    refine wk_reg (id := 0) ?_
    refine wk_move rfl rfl ?_
    refine wk_nilCheck rfl rfl ?_
    refine wk_field (f := 0) (i := Tryd.t40) rfl Tryd.underlying42 rfl (by kernel_rfl) (by decide) rfl ?_
    refine wk_load rfl Tryd.underlying40 rfl (by exact cell_blk (by with_reducible assumption) rfl) rfl ?_
    refine wk_eqnilm rfl rfl Tryd.underlying40 rfl ?_
    refine wk_nil ?_
    refine wk_condF rfl ?_
    refine wk_skip ?_
    refine wk_reg (id := 2) ?_
    refine wk_move rfl rfl ?_
    refine wk_nilCheck rfl rfl ?_
    refine wk_field (f := 0) (i := Tryd.t40) rfl Tryd.underlying42 rfl (by kernel_rfl) (by decide) rfl ?_
    refine wk_load rfl Tryd.underlying40 rfl (by exact cell_blk (by with_reducible assumption) rfl) rfl ?_
    refine wk_move rfl rfl ?_
    refine wk_move rfl rfl ?_
    refine wk_mapUpdate (Y := Y) (tl := acc) rfl rfl rfl Tryd.underlying40 Tryd.underlying64 hmr (hY _ hr) hst hT hs hv (fun ents' cl' hst' hT => ?_)
    refine wk_nil ?_
    exact wk_end0 (fun _ _ h => h) rfl ⟨rfl, upd r ents cl w hb0 hmr hr (Below.refl _ _) (fun b cs t _ h => h) ents' cl' hst' hT⟩
theorem rd_Tags : RTagsContract Tryd.prog 75 45 := by
  rintro w X rb s hr hX hlt
  refine calls_wk (args := [.pointer (some ⟨rb, 0, none⟩)]) Tryd.func45 rfl rfl ?_
  refine wk_seq ?_
  refine wk_reg (id := 0) ?_
  refine wk_alloc (t := 42) (i := Tryd.t42) (by kernel_rfl) rfl rfl ?_
  refine wk_nil ?_
  refine wk_seq ?_
  refine wk_reg (id := 1) ?_
  refine wk_alloc (t := 42) (i := Tryd.t42) (by kernel_rfl) rfl rfl ?_
  refine wk_nil ?_
  refine wk_seq ?_
  refine wk_seq ?_
  refine wk_reg (id := 2) ?_
  refine wk_move rfl rfl ?_
  have hz : (Tryd.t42.zero.getD undef).cells = #[Value.map none] := by kernel_rfl
  generalize hA : w.alloc (.cells _ 42) = wA
  generalize hB : wA.alloc (.cells _ 42) = wB
  have hbA : Below w.heap.size w wA := by rw [← hA]; exact below1 _ _
  have hbB : Below wA.heap.size wA wB := by rw [← hB]; exact below1 _ _
  have hszA : wA.heap.size = w.heap.size + 1 := by rw [← hA]; simp
  have hszB : wB.heap.size = w.heap.size + 2 := by rw [← hB]; simp [hszA]
  have hrow3 : wB.heap[w.heap.size + 1]? = some (.cells #[.map none] 42 (0, 0)) := by rw [← hB, ← hszA, ← hz]; exact heap_alloc_last _ _
  have hrow2 : wB.heap[w.heap.size]? = some (.cells #[.map none] 42 (0, 0)) := by rw [hbB.block _ (by omega), ← hA, ← hz]; exact heap_alloc_last _ _
  have hbAB : Below w.heap.size w wB := hbA.trans (hbB.mono (by omega))
  let Y : Nat → Prop := fun b => w.heap.size ≤ b ∨ X b
  have hrY : RdOK wB Y 75 rb s := (hr.mono (Y := Y) (fun b hb hy => hy.resolve_left (by omega))).fresh hbAB
  have hrb : rb < w.heap.size := hlt rb hX
  rw [hszA]
  refine wk_call Tryd.call48 (vs := [.pointer (some ⟨rb, 0, none⟩)]) rfl rfl ((rd_Uvarint wB Y rb s hrY (.inr hX)).mono ?_)
  rintro e w1 ⟨rfl, hr1, hg1⟩
  refine ⟨_, rfl, ?_⟩
  have he : rTags s = rTagsL (rUv s).1 [] (rUv s).2 := rfl
  rw [he]
  have hub := rUv_bound s
  generalize hp0 : rUv s = p0 at *
  obtain ⟨n, s1⟩ := p0
  simp only at hub hr1 he
  have hgw : w.grownBy w1 (some rb) := grown_trans1 (grown_below1 hbAB) hg1
  refine wk_assign rfl rfl ?_
  refine wk_nil ?_
  refine wk_loop (fun i : Nat × List (Nat × List UInt8) × RS => [(0, .pointer (some ⟨rb, 0, none⟩)), (2, .pointer (some ⟨w.heap.size, 0, none⟩)), (3, .pointer (some ⟨w.heap.size + 1, 0, none⟩)), (4, .int .u32 (i.1 : Int))])
    (fun i w' => i.1 < 4294967296 ∧ w.grownBy w' (some rb) ∧ RdOK w' Y 75 rb i.2.2 ∧ (∃ mv, w'.heap[w.heap.size + 1]? = some (.cells #[mv] 42 (0, 0)) ∧ MapAt w' w.heap.size Y mv i.2.1) ∧ w'.heap[w.heap.size]? = some (.cells #[.map none] 42 (0, 0)) ∧
      i.2.1.Pairwise (fun a b => a.1 < b.1) ∧ rTagsL i.1 i.2.1 i.2.2 = rTagsL n [] s1) (fun i => i.1) (n, [], s1) rfl ?_ ?_
  · exact ⟨hub, hgw, hr1, ⟨.map none, (hg1.block _ (by omega) (by intro e; cases e; omega)).trans hrow3, .inl ⟨rfl, rfl⟩⟩, (hg1.block _ (by omega) (by intro e; cases e; omega)).trans hrow2, by simp, rfl⟩
  · rintro ⟨m, acc, s2⟩ w2 ⟨hm, hg2, hr2, ⟨mv, hmv, hmap⟩, hr0, hso, hout⟩
    simp only at hm hr2 hmap hso hout
    by_cases h0 : m = 0
    · subst h0
      have c1 : cmp .gtr ((0 : Nat) : Int) 0 = some false := rfl
      have hmv' : w2.cell? ⟨w.heap.size + 1, 0, none⟩ = some mv := cell_blk hmv rfl
      refine wk_seq ?_
      refine wk_seq ?_
      refine wk_reg (id := 3) ?_
      refine wk_move rfl rfl ?_
      refine wk_cmp rfl rfl (by with_reducible assumption) rfl ?_
      refine wk_nil ?_
      refine wk_condF rfl ?_
      refine wk_loopExit ?_
      refine wk_seq ?_
      refine wk_reg (id := 7) ?_
      refine wk_loadA (i := Tryd.t42) rfl Tryd.underlying42 rfl (by kernel_rfl) rfl (by exact cells_blk (by with_reducible assumption)) rfl ?_
      have hone : mv.oneCell' = true := by rcases hmap with ⟨rfl, _⟩ | ⟨r, _, _, rfl, _⟩ <;> rfl
      refine wk_storeRow (i := Tryd.t42) (cs := #[mv]) rfl rfl hr0 (by kernel_rfl) rfl rfl (by simp [hone]) ?_
      have hrow := setRow_heap _ _ _ #[mv] _ _ hr0
      refine wk_nil ?_
      have hgf : w.grownBy (w2.setRow w.heap.size #[mv]) (some rb) := ⟨hg2.os, hg2.tape, hg2.output, by simpa [World.setRow] using hg2.size, fun k hk hne => (setRow_other _ _ _ _ (by omega)).trans (hg2.block k hk hne)⟩
      have hkY : Keeps Y w2 (w2.setRow w.heap.size #[mv]) := ⟨by simp [World.setRow], fun k hk hY => setRow_other _ _ _ _ (fun e => hY (.inl (by omega)))⟩
      have hrf := hr2.mono (Y := Y) (fun _ _ h => h)
      refine wk_retc r0 rfl rfl (loadVar_cells (vs := [mv]) Tryd.underlying42 rfl (show Tryd.prog.info? 42 = some Tryd.t42 by kernel_rfl) rfl (cells_blk hrow)) ⟨mv, rfl, ?_, ?_, hgf⟩
      · rw [← hout]
        show Rep _ X mv (.tags acc)
        have hrep : Rep (w2.setRow w.heap.size #[mv]) (fun b => b = w.heap.size ∨ b = w.heap.size + 1 ∨ X b) mv (.tags acc) := by
          rcases hmap with ⟨rfl, rfl⟩ | ⟨r, ents, cl, rfl, hbr, hre, hst, hT, hne⟩
          · exact .tnil
          · have hn1 : r ≠ w.heap.size := fun e => by subst e; rw [hr0] at hre; cases hre
            have hn2 : r ≠ w.heap.size + 1 := fun e => by subst e; rw [hmv] at hre; cases hre
            have hnX : ¬ X r := fun hx => by have := hlt r hx; omega
            refine .tags r ents cl acc (by rintro (h | h | h); exact hn1 h; exact hn2 h; exact hnX h) ((setRow_other _ _ _ _ hn1).trans hre) hst ?_ hne
            exact (hT.keep hkY).mono (fun b _ h => by rcases h with h | h | h; exact .inl (by omega); exact .inl (by omega); exact .inr h)
        exact hrep.mono (fun b _ h => .inr (.inr h))
      · rw [← hout]
        show RdOK _ X _ rb s2
        obtain ⟨v, h1, h2⟩ := hr2
        exact ⟨v, (setRow_other _ _ _ _ (by omega)).trans h1, (h2.keep hkY).mono (fun b _ h => .inr h)⟩
    · have c1 : cmp .gtr (m : Int) 0 = some true := by simp only [cmp, Option.some.injEq, decide_eq_true_eq]; omega
      refine wk_seq ?_
      refine wk_seq ?_
      refine wk_reg (id := 3) ?_
      refine wk_move rfl rfl ?_
      refine wk_cmp rfl rfl (by with_reducible assumption) rfl ?_
      refine wk_nil ?_
      refine wk_condT rfl ?_
      refine wk_skip ?_
      refine wk_seq ?_
      refine wk_block ?_
      refine wk_seq ?_
      refine wk_reg (id := 5) ?_
      refine wk_move rfl rfl ?_
      refine wk_call Tryd.call48 (vs := [.pointer (some ⟨rb, 0, none⟩)]) rfl rfl ((rd_Uvarint w2 Y rb s2 hr2 (.inr hX)).mono ?_)
      rintro e w3 ⟨rfl, hr3, hg3⟩
      refine ⟨_, rfl, ?_⟩
      refine wk_move rfl rfl ?_
      refine wk_call Tryd.call48 (vs := [.pointer (some ⟨rb, 0, none⟩)]) rfl rfl ((rd_Uvarint w3 Y rb _ hr3 (.inr hX)).mono ?_)
      rintro e w4 ⟨rfl, hr4, hg4⟩
      refine ⟨_, rfl, ?_⟩
      obtain ⟨q, hq⟩ : ∃ q, m = q + 1 := ⟨m - 1, by omega⟩
      subst hq
      have hstep : rTagsL (q + 1) acc s2 = rTagsL q (tagSet (rUv s2).1 (orNil (rSpan (rUv (rUv s2).2).1 (rUv (rUv s2).2).2).1) acc) (rSpan (rUv (rUv s2).2).1 (rUv (rUv s2).2).2).2 := rfl
      rw [hstep] at hout
      have hb1 := rUv_bound s2
      have hb2 := rUv_bound (rUv s2).2
      generalize (rUv s2).1 = key at *
      generalize rUv (rUv s2).2 = p4 at *
      obtain ⟨z, s4⟩ := p4
      simp only at hb2 hr4 hout
      have hwz := i64wr (z : Int) (by omega) (by omega)
      refine wk_assign rfl rfl ?_
      refine wk_assign rfl rfl ?_
      refine wk_nil ?_
      refine wk_reg (id := 6) ?_
      refine wk_move rfl rfl ?_
      refine wk_move rfl rfl ?_
      refine wk_move rfl rfl ?_
      refine wk_convV rfl Tryd.underlying64 Tryd.underlying3 (by with_reducible assumption) rfl ?_
      refine wk_call Tryd.call50 (vs := [.pointer (some ⟨rb, 0, none⟩), .int .i64 (z : Int)]) rfl rfl ((rd_Span w4 Y rb s4 (z : Int) hr4 (.inr hX)).mono ?_)
      rintro e w5 ⟨v5, rfl, hs5, hr5, hg5⟩
      refine ⟨_, rfl, ?_⟩
      have hg25 := grown_trans1 (grown_trans1 hg3 hg4) hg5
      have hsz2 := hg2.size
      have hr05 := (hg25.block _ (lt_of_some hr0) (by intro e; cases e; omega)).trans hr0
      have hmv5 := (hg25.block _ (lt_of_some hmv) (by intro e; cases e; omega)).trans hmv
      have hk25 : Keeps Y w2 w5 := ⟨hg25.size, fun b hb hY => hg25.block b hb (by intro e; cases e; exact hY (.inr hX))⟩
      have hmap5 : MapAt w5 w.heap.size Y mv acc := hmap.keep hk25 (fun r es cl h => by
        refine (hg25.block r (lt_of_some h) ?_).trans h
        intro e
        cases e
        obtain ⟨v, h1, _⟩ := hr2
        rw [h] at h1
        cases h1)
      refine wk_call Tryd.call49 (vs := [.pointer (some ⟨w.heap.size + 1, 0, none⟩), .int .u32 (key : Int), v5]) rfl rfl
        ((c_TagsSet w5 w.heap.size (w.heap.size + 1) key Y (fun b h => .inl h) mv v5 acc (orNil (rSpan (z : Int) s4).1) hmv5 (by omega) (by have := hg25.size; omega) hmap5 hso (by
          cases hq : (rSpan (z : Int) s4).1 with
          | none => rw [hq] at hs5; exact .inl ⟨⟨none, hs5⟩, rfl⟩
          | some b => rw [hq] at hs5; exact .inr hs5)).mono ?_)
      rintro e w6 ⟨rfl, mv', hmv6, hmap6, hb6, hc6⟩
      refine ⟨_, rfl, ?_⟩
      have hg6 : w.grownBy w6 (some rb) := ⟨hb6.os.trans (hg25.os.trans hg2.os), hb6.tape.trans (hg25.tape.trans hg2.tape), hb6.output.trans (hg25.output.trans hg2.output), Nat.le_trans hsz2 (Nat.le_trans hg25.size hb6.size),
        fun k hk hne => (hb6.block k hk).trans ((hg25.block k (by omega) hne).trans (hg2.block k hk hne))⟩
      have hr6 : RdOK w6 Y 75 rb (rSpan (z : Int) s4).2 := by
        obtain ⟨v, h1, h2⟩ := hr5
        exact ⟨v, (hb6.block rb hrb).trans h1, h2.keep ((Keeps.of_below hb6).mono (fun b h => .inl h))⟩
      have hsub : IntKind.u32.wrap (((q + 1 : Nat) : Int) - 1) = (q : Int) := by rw [show ((q + 1 : Nat) : Int) - 1 = (q : Int) by omega]; exact u32n q (by omega)
      refine wk_nil ?_
      refine wk_blockEnd ?_
      refine wk_reg (id := 4) ?_
      refine wk_move rfl rfl ?_
      refine wk_subV rfl rfl (by with_reducible assumption) rfl ?_
      refine wk_assign rfl rfl ?_
      refine wk_nil ?_
      exact wk_loopNext (q, tagSet key (orNil (rSpan (z : Int) s4).1) acc, (rSpan (z : Int) s4).2) (Nat.lt_succ_self q) rfl ⟨by simp only; omega, hg6, hr6, ⟨mv', hmv6, hmap6⟩, hc6 _ _ _ (by omega) hr05, tagSet_sorted hso, hout⟩
end Go.Proofs.YtbcfmhgcpijfnaaDoor
