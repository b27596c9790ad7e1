/-
  The message FetchSnapshotResponse: read, and written again.
-/
import Derived.Test.YtbcfmhgcpijfnaaDoorAgBase
set_option linter.unusedVariables false
set_option linter.unusedSimpArgs false
namespace Go.Proofs.YtbcfmhgcpijfnaaDoor
open Go Go.RowKit Go.Proofs.Eng
set_option maxRecDepth 20000
set_option maxHeartbeats 4000000

/-! ## the message -/
def ks_FetchSnapshotResponse : List K := [.int .i16, .int .i32, .int .i16, .arr [.str, .arr [.int .i32, .int .i16, .int .i64, .int .i32, .tags false, .int .i32, .int .i32, .tags false, .int .i64, .int .i64, .bytes, .tags false], .tags false], .arr [.int .i32, .str, .int .u16, .tags false], .tags false]
def dv_FetchSnapshotResponse (v : Int) : List Value := [.int .i16 v, .int .i32 0, .int .i16 0, .slice none 0 0, .slice none 0 0, .map none]
theorem c_NewPtr_FetchSnapshotResponse (w : World) : Calls Tryd.prog 8 #[] w fun e w' => e = .returned (.pointer (some ⟨w.heap.size, 0, none⟩)) ∧ w'.heap[w.heap.size]? = some (.cells (dv_FetchSnapshotResponse 0).toArray 44 (0, 0)) ∧ Below w.heap.size w w' := by
  have e1 : setS (#[.int .i16 0, .int .i32 0, .int .i16 0, .slice none 0 0, .slice none 0 0, .map none] : Array Value) 0 [] = (dv_FetchSnapshotResponse 0).toArray := by kernel_rfl
  refine calls_wk (args := []) Tryd.func8 rfl rfl ?_
  refine wk_seq ?_
  refine wk_reg (id := 0) ?_
  refine wk_assign rfl rfl ?_
  refine wk_nil ?_
  refine wk_seq ?_
  refine wk_reg (id := 1) ?_
  refine wk_alloc (t := 44) (i := Tryd.t44) (by kernel_rfl) rfl rfl ?_
  refine wk_nil ?_
  refine wk_seq ?_
  refine wk_reg (id := 2) ?_
  refine wk_call Tryd.call13 (vs := [.pointer (some ⟨w.heap.size, 0, none⟩)]) rfl rfl ((dc_13 _ w.heap.size 0 #[.int .i16 0, .int .i32 0, .int .i16 0, .slice none 0 0, .slice none 0 0, .map none] 44 (heap_alloc_last _ _) (by decide)).mono ?_)
  rintro e w1 ⟨rfl, h1, hg1⟩
  refine ⟨_, rfl, ?_⟩
  rw [e1] at h1
  refine wk_nil ?_
  refine wk_seq ?_
  refine wk_reg (id := 3) ?_
  refine wk_assign rfl rfl ?_
  refine wk_nil ?_
  exact wk_ret r0 rfl rfl ⟨rfl, h1, below_box hg1⟩
theorem c_MaxV_FetchSnapshotResponse (w : World) (p : Value) : Calls Tryd.prog 9 #[p] w fun e w' => e = .returned (.int .i16 1) ∧ w' = w := by
  refine calls_wk (args := [p]) Tryd.func9 rfl rfl ?_
  refine wk_seq ?_
  refine wk_reg (id := 0) ?_
  refine wk_assign rfl rfl ?_
  refine wk_nil ?_
  refine wk_seq ?_
  refine wk_reg (id := 1) ?_
  refine wk_assign rfl rfl ?_
  refine wk_nil ?_
  exact wk_ret r0 rfl rfl ⟨rfl, rfl⟩
theorem c_Max_FetchSnapshotResponse (w : World) : Calls Tryd.prog 4 #[] w fun e w' => e = .returned (.int .i64 1) ∧ Below w.heap.size w w' := by
  refine calls_wk (args := []) Tryd.func4 rfl rfl ?_
  refine wk_seq ?_
  refine wk_reg (id := 0) ?_
  refine wk_assign rfl rfl ?_
  refine wk_nil ?_
  refine wk_seq ?_
  refine wk_reg (id := 1) ?_
  refine wk_call Tryd.call8 (vs := []) rfl rfl ((c_NewPtr_FetchSnapshotResponse w).mono ?_)
  rintro e w1 ⟨rfl, _, hb1⟩
  refine ⟨_, rfl, ?_⟩
  skip
  refine wk_call Tryd.call9 (vs := [.pointer (some ⟨w.heap.size, 0, none⟩)]) rfl rfl ((c_MaxV_FetchSnapshotResponse w1 _).mono ?_)
  rintro e w2 ⟨rfl, rfl⟩
  refine ⟨_, rfl, ?_⟩
  refine wk_conv rfl Tryd.underlying29 Tryd.underlying3 rfl ?_
  refine wk_assign rfl rfl ?_
  refine wk_nil ?_
  exact wk_ret r0 rfl rfl ⟨rfl, hb1⟩
theorem c_SetV_FetchSnapshotResponse (w : World) (b : Nat) (n : Int) (h0 : w.heap[b]? = some (.cells (dv_FetchSnapshotResponse 0).toArray 44 (0, 0))) : Calls Tryd.prog 10 #[.pointer (some ⟨b, 0, none⟩), .int .i16 n] w fun e w' => e = .returned (.tuple #[]) ∧ w'.heap[b]? = some (.cells (dv_FetchSnapshotResponse n).toArray 44 (0, 0)) ∧ Below b w w' := by
  refine calls_wk (args := [.pointer (some ⟨b, 0, none⟩), .int .i16 n]) Tryd.func10 rfl rfl ?_
  refine wk_reg (id := 0) ?_
  refine wk_move rfl rfl ?_
  refine wk_move rfl rfl ?_
  refine wk_nilCheck rfl rfl ?_
  refine wk_field (f := 0) (i := Tryd.t29) rfl Tryd.underlying44 rfl (by kernel_rfl) (by decide) rfl ?_
  refine wk_store1 (i := Tryd.t29) rfl rfl h0 (by kernel_rfl) rfl rfl rfl (show 0 < 6 by decide) ?_
  refine wk_nil ?_
  exact wk_end0 (fun _ _ h => h) rfl ⟨rfl, setRow_heap _ _ _ ((dv_FetchSnapshotResponse 0).toArray.setIfInBounds 0 (.int .i16 n)) _ _ h0, below_row (Below.refl b w) (Nat.le_refl b) _⟩
abbrev VOK_FetchSnapshotResponse (ver : Nat) (S : Sch) : Prop := VerOK nT aR 75 6000 Tryd.f14 Tryd.f12 4 ks_FetchSnapshotResponse (dv_FetchSnapshotResponse ver) [some (.int .i16 (ver : Int))] S
noncomputable def ver_FetchSnapshotResponse (v : Nat) : Option Sch := verS nT aR 75 6000 Tryd.f14 Tryd.f12 4 ks_FetchSnapshotResponse (dv_FetchSnapshotResponse v) [some (.int .i16 (v : Int))]
theorem ok_FetchSnapshotResponse (ver : Nat) (h : ver ≤ 1) : ∃ S cs, VOK_FetchSnapshotResponse ver S ∧ cvs0 ks_FetchSnapshotResponse (dv_FetchSnapshotResponse ver) = some cs ∧ cs[0]? = some (.int .i16 ver) := by
  have key : ∀ v : Nat, ((ver_FetchSnapshotResponse v).isSome && (match cvs0 ks_FetchSnapshotResponse (dv_FetchSnapshotResponse v) with | some (.int .i16 n :: _) => decide (n = (v : Int)) | _ => false)) = true → ∃ S cs, VOK_FetchSnapshotResponse v S ∧ cvs0 ks_FetchSnapshotResponse (dv_FetchSnapshotResponse v) = some cs ∧ cs[0]? = some (.int .i16 v) := by
    intro v h
    simp only [Bool.and_eq_true] at h
    obtain ⟨S, hS⟩ := Option.isSome_iff_exists.1 h.1
    have h2 := h.2
    split at h2
    · rename_i n r hc
      exact ⟨S, _, verS_ok hS, hc, by rw [← of_decide_eq_true h2]; rfl⟩
    · cases h2
  have h : ver = 0 ∨ ver = 1 := by omega
  rcases h with rfl | rfl <;> exact key _ (by kernel_rfl)
theorem rd_FetchSnapshotResponse {E : Value} (hE : ∃ u q, E = .iface u q) {ver : Nat} {S : Sch} {cs : List CV} (V : VOK_FetchSnapshotResponse ver S) (hcs : cvs0 ks_FetchSnapshotResponse (dv_FetchSnapshotResponse ver) = some cs) (w : World) (b0 : Nat) (sv : Value) (l : List UInt8) (hb0 : w.heap[b0]? = some (.cells (dv_FetchSnapshotResponse ver).toArray 44 (0, 0)))
    (hsrc : SrcRep w (fun b => b = b0) sv (srcO l)) (hl : l.length < 130000000) (hone : sv.oneCell' = true) (hg : w.cell? ⟨1, 0, none⟩ = some E) (hg0 : 1 ≠ b0) :
    Calls Tryd.prog 11 #[.pointer (some ⟨b0, 0, none⟩), sv] w fun e w' => w.grownBy w' (some b0) ∧ ∃ bad, e = .returned (errV E bad) ∧ (bad = true → againR S cs l = none) ∧
      (bad = false → ∃ out vals, againR S cs l = some (runW (wOf S) out) ∧ (runW (wOf S) out).length ≤ 32 * l.length ∧ MsgAt w' b0 44 ks_FetchSnapshotResponse out vals ∧ ∀ k m, cs[0]? = some (.int k m) → vals[0]? = some (.int k m)) := by
  refine calls_wk (args := [.pointer (some ⟨b0, 0, none⟩), sv]) Tryd.func11 rfl rfl ?_
  refine wk_seq ?_
  refine wk_reg (id := 0) ?_
  refine wk_assign rfl rfl ?_
  refine wk_nil ?_
  refine wk_seq ?_
  refine wk_reg (id := 1) ?_
  refine wk_move rfl rfl ?_
  refine wk_move rfl rfl ?_
  refine wk_call Tryd.call14 (vs := [.pointer (some ⟨b0, 0, none⟩), sv, .bool false]) rfl rfl ((ver_read nTabOK (aROK E hE) rBuild rInfo rfl rfl V Tryd.func14 hcs w b0 44 sv l hb0 hsrc hl hone hg hg0).mono ?_)
  rintro e w1 ⟨hg1, bad, rfl, h1, h2⟩
  refine ⟨_, rfl, ?_⟩
  refine wk_assign rfl rfl ?_
  refine wk_nil ?_
  exact wk_ret r0 rfl rfl ⟨hg1, bad, rfl, h1, h2⟩
theorem c_Again_FetchSnapshotResponse {E : Value} (hE : ∃ u q, E = .iface u q) {ver : Nat} (hver : ver ≤ 1) {S : Sch} {cs : List CV} (V : VOK_FetchSnapshotResponse ver S) (hcs : cvs0 ks_FetchSnapshotResponse (dv_FetchSnapshotResponse ver) = some cs) (hc0 : cs[0]? = some (.int .i16 ver)) (w : World) (X : Nat → Prop) (sv : Value) (l : List UInt8) (hv : BytesRep0 w X sv l) (hl : l.length < 130000000)
    (hg : w.cell? ⟨1, 0, none⟩ = some E) : Calls Tryd.prog 5 #[.int .i64 (ver : Int), sv] w fun e w' => ∃ d ok, e = .returned (.tuple #[d, .bool ok]) ∧ Below w.heap.size w w' ∧ (∀ a, againR S cs l = some a → ok = true ∧ Own w' w.heap.size 5 d a) ∧ (againR S cs l = none → ok = false) := by
  have hw : IntKind.i16.wrap (ver : Int) = ver := i16w _ (by omega) (by omega)
  have hgl : 1 < w.heap.size := lt_of_cell hg
  refine calls_wk (args := [.int .i64 (ver : Int), sv]) Tryd.func5 rfl rfl ?_
  refine wk_seq ?_
  refine wk_reg (id := 0) ?_
  refine wk_assign rfl rfl ?_
  refine wk_assign rfl rfl ?_
  refine wk_nil ?_
  refine wk_seq ?_
  refine wk_reg (id := 1) ?_
  refine wk_call Tryd.call8 (vs := []) rfl rfl ((c_NewPtr_FetchSnapshotResponse w).mono ?_)
  rintro e w1 ⟨rfl, h1, hb1⟩
  refine ⟨_, rfl, ?_⟩
  refine wk_assign rfl rfl ?_
  refine wk_nil ?_
  refine wk_seq ?_
  refine wk_reg (id := 2) ?_
  refine wk_move rfl rfl ?_
  refine wk_move rfl rfl ?_
  refine wk_convV rfl Tryd.underlying3 Tryd.underlying29 (by with_reducible assumption) rfl ?_
  refine wk_call Tryd.call10 (vs := [.pointer (some ⟨w.heap.size, 0, none⟩), .int .i16 (ver : Int)]) rfl rfl ((c_SetV_FetchSnapshotResponse w1 w.heap.size ver h1).mono ?_)
  rintro e w2 ⟨rfl, h2, hb2⟩
  refine ⟨_, rfl, ?_⟩
  have hb02 := hb1.trans hb2
  refine wk_nil ?_
  refine wk_seq ?_
  refine wk_seq ?_
  refine wk_reg (id := 3) ?_
  refine wk_move rfl rfl ?_
  refine wk_move rfl rfl ?_
  refine wk_appsrc byteT rfl (hv.keep (keeps_below hb02 (Nat.le_refl _))) (Nat.le_trans (Nat.le_of_lt hl) (by decide)) rfl ?_
  intro d3 w3 hsrc hone hb3
  have hb03 := hb02.trans (hb3.mono hb02.size)
  have h3 := (hb3.block _ (lt_of_some h2)).trans h2
  skip
  refine wk_call Tryd.call11 (vs := [.pointer (some ⟨w.heap.size, 0, none⟩), d3]) rfl rfl ((rd_FetchSnapshotResponse hE V hcs w3 w.heap.size d3 l h3 (hsrc.mono (fun b _ hb => by have := lt_of_some h2; have hb : b = w.heap.size := hb; omega)) hl hone ((hb03.cell (p := ⟨1, 0, none⟩) hgl).trans hg) (by omega)).mono ?_)
  rintro e w4 ⟨hg4, bad, rfl, hbad, hgood⟩
  refine ⟨_, rfl, ?_⟩
  have hb04 := hb03.trans (below_grown1 hg4 (Nat.le_refl _) hb03.size)
  skip
  refine wk_neqnil (E := E) (bad := bad) rfl Tryd.underlying35 hE rfl ?_
  cases bad with
  | true =>
    refine wk_nil ?_
    refine wk_condT rfl ?_
    refine wk_seq ?_
    refine wk_reg (id := 4) ?_
    refine wk_assign rfl rfl ?_
    refine wk_assign rfl rfl ?_
    refine wk_nil ?_
    exact wk_ret2 r0 rfl rfl rfl ⟨_, _, rfl, hb04, (fun a h => by rw [hbad rfl] at h; cases h), (fun _ => rfl)⟩
  | false =>
    obtain ⟨out, vals, h5, h6, h7, h8⟩ := hgood rfl
    refine wk_nil ?_
    refine wk_condF rfl ?_
    refine wk_skip ?_
    refine wk_seq ?_
    refine wk_reg (id := 5) ?_
    refine wk_move rfl rfl ?_
    refine wk_call Tryd.call12 (vs := [.pointer (some ⟨w.heap.size, 0, none⟩), .slice none 0 0]) rfl rfl ((ver_write nTabOK nConts V Tryd.func12 rfl rfl h7 (fun o v h => by
      cases o with
      | zero => simp only [List.getElem?_cons_zero, Option.some.injEq] at h; subst h; exact h8 _ _ hc0
      | succ o => simp at h) (by rw [lim_eq]; omega)).mono ?_)
    rintro e w5 ⟨d5, rfl, ho5, hb5⟩
    refine ⟨_, rfl, ?_⟩
    refine wk_assign rfl rfl ?_
    refine wk_assign rfl rfl ?_
    refine wk_nil ?_
    exact wk_ret2 r0 rfl rfl rfl ⟨_, _, rfl, hb04.trans (hb5.mono hb04.size), (fun a h => by rw [h5] at h; cases h; exact ⟨rfl, own_mono ho5 hb04.size⟩), (fun h => by rw [h5] at h; cases h)⟩
end Go.Proofs.YtbcfmhgcpijfnaaDoor
