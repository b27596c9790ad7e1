/-
  The message BrokerRegistrationRequest: read, and written again.
-/
import Derived.Test.YthejiimocbfagabGreatDoorAgBase
set_option linter.unusedVariables false
set_option linter.unusedSimpArgs false
namespace Go.Proofs.YthejiimocbfagabGreatDoor
open Go Go.RowKit Go.Proofs.Eng
set_option maxRecDepth 20000
set_option maxHeartbeats 4000000

/-! ## the message -/
def ks_BrokerRegistrationRequest : List K := [.int .i16, .int .i32, .str, .int .u8, .int .u8, .int .u8, .int .u8, .int .u8, .int .u8, .int .u8, .int .u8, .int .u8, .int .u8, .int .u8, .int .u8, .int .u8, .int .u8, .int .u8, .int .u8, .arr [.str, .str, .int .u16, .int .i16, .tags false], .arr [.str, .int .i16, .int .i16, .tags false], .pstr, .bool, .arr [.int .u8, .int .u8, .int .u8, .int .u8, .int .u8, .int .u8, .int .u8, .int .u8, .int .u8, .int .u8, .int .u8, .int .u8, .int .u8, .int .u8, .int .u8, .int .u8], .int .i64, .tags false]
def dv_BrokerRegistrationRequest (v : Int) : List Value := [.int .i16 v, .int .i32 0, .string ByteArray.empty, .int .u8 0, .int .u8 0, .int .u8 0, .int .u8 0, .int .u8 0, .int .u8 0, .int .u8 0, .int .u8 0, .int .u8 0, .int .u8 0, .int .u8 0, .int .u8 0, .int .u8 0, .int .u8 0, .int .u8 0, .int .u8 0, .slice none 0 0, .slice none 0 0, .pointer none, .bool false, .slice none 0 0, .int .i64 (-1), .map none]
theorem c_NewPtr_BrokerRegistrationRequest (w : World) : Calls Tryz.prog 11 #[] w fun e w' => e = .returned (.pointer (some ⟨w.heap.size, 0, none⟩)) ∧ w'.heap[w.heap.size]? = some (.cells (dv_BrokerRegistrationRequest 0).toArray 66 (0, 0)) ∧ Below w.heap.size w w' := by
  have e1 : setS (#[.int .i16 0, .int .i32 0, .string ByteArray.empty, .int .u8 0, .int .u8 0, .int .u8 0, .int .u8 0, .int .u8 0, .int .u8 0, .int .u8 0, .int .u8 0, .int .u8 0, .int .u8 0, .int .u8 0, .int .u8 0, .int .u8 0, .int .u8 0, .int .u8 0, .int .u8 0, .slice none 0 0, .slice none 0 0, .pointer none, .bool false, .slice none 0 0, .int .i64 0, .map none] : Array Value) 0 [(24, .int .i64 (-1))] = (dv_BrokerRegistrationRequest 0).toArray := by kernel_rfl
  refine calls_wk (args := []) Tryz.func11 rfl rfl ?_
  refine wk_seq ?_
  refine wk_reg (id := 0) ?_
  refine wk_assign rfl rfl ?_
  refine wk_nil ?_
  refine wk_seq ?_
  refine wk_reg (id := 1) ?_
  refine wk_alloc (t := 66) (i := Tryz.t66) (by kernel_rfl) rfl rfl ?_
  refine wk_nil ?_
  refine wk_seq ?_
  refine wk_reg (id := 2) ?_
  refine wk_call Tryz.call20 (vs := [.pointer (some ⟨w.heap.size, 0, none⟩)]) rfl rfl ((dc_20 _ w.heap.size 0 #[.int .i16 0, .int .i32 0, .string ByteArray.empty, .int .u8 0, .int .u8 0, .int .u8 0, .int .u8 0, .int .u8 0, .int .u8 0, .int .u8 0, .int .u8 0, .int .u8 0, .int .u8 0, .int .u8 0, .int .u8 0, .int .u8 0, .int .u8 0, .int .u8 0, .int .u8 0, .slice none 0 0, .slice none 0 0, .pointer none, .bool false, .slice none 0 0, .int .i64 0, .map none] 66 (heap_alloc_last _ _) (by decide)).mono ?_)
  rintro e w1 ⟨rfl, h1, hg1⟩
  refine ⟨_, rfl, ?_⟩
  rw [e1] at h1
  refine wk_nil ?_
  refine wk_seq ?_
  refine wk_reg (id := 3) ?_
  refine wk_assign rfl rfl ?_
  refine wk_nil ?_
  exact wk_ret r0 rfl rfl ⟨rfl, h1, below_box hg1⟩
theorem c_MaxV_BrokerRegistrationRequest (w : World) (p : Value) : Calls Tryz.prog 12 #[p] w fun e w' => e = .returned (.int .i16 4) ∧ w' = w := by
  refine calls_wk (args := [p]) Tryz.func12 rfl rfl ?_
  refine wk_seq ?_
  refine wk_reg (id := 0) ?_
  refine wk_assign rfl rfl ?_
  refine wk_nil ?_
  refine wk_seq ?_
  refine wk_reg (id := 1) ?_
  refine wk_assign rfl rfl ?_
  refine wk_nil ?_
  exact wk_ret r0 rfl rfl ⟨rfl, rfl⟩
theorem c_Max_BrokerRegistrationRequest (w : World) : Calls Tryz.prog 5 #[] w fun e w' => e = .returned (.int .i64 4) ∧ Below w.heap.size w w' := by
  refine calls_wk (args := []) Tryz.func5 rfl rfl ?_
  refine wk_seq ?_
  refine wk_reg (id := 0) ?_
  refine wk_assign rfl rfl ?_
  refine wk_nil ?_
  refine wk_seq ?_
  refine wk_reg (id := 1) ?_
  refine wk_call Tryz.call11 (vs := []) rfl rfl ((c_NewPtr_BrokerRegistrationRequest w).mono ?_)
  rintro e w1 ⟨rfl, _, hb1⟩
  refine ⟨_, rfl, ?_⟩
  skip
  refine wk_call Tryz.call12 (vs := [.pointer (some ⟨w.heap.size, 0, none⟩)]) rfl rfl ((c_MaxV_BrokerRegistrationRequest w1 _).mono ?_)
  rintro e w2 ⟨rfl, rfl⟩
  refine ⟨_, rfl, ?_⟩
  refine wk_conv rfl Tryz.underlying40 Tryz.underlying3 rfl ?_
  refine wk_assign rfl rfl ?_
  refine wk_nil ?_
  exact wk_ret r0 rfl rfl ⟨rfl, hb1⟩
theorem c_SetV_BrokerRegistrationRequest (w : World) (b : Nat) (n : Int) (h0 : w.heap[b]? = some (.cells (dv_BrokerRegistrationRequest 0).toArray 66 (0, 0))) : Calls Tryz.prog 16 #[.pointer (some ⟨b, 0, none⟩), .int .i16 n] w fun e w' => e = .returned (.tuple #[]) ∧ w'.heap[b]? = some (.cells (dv_BrokerRegistrationRequest n).toArray 66 (0, 0)) ∧ Below b w w' := by
  refine calls_wk (args := [.pointer (some ⟨b, 0, none⟩), .int .i16 n]) Tryz.func16 rfl rfl ?_
  refine wk_reg (id := 0) ?_
  refine wk_move rfl rfl ?_
  refine wk_move rfl rfl ?_
  refine wk_nilCheck rfl rfl ?_
  refine wk_field (f := 0) (i := Tryz.t40) rfl Tryz.underlying66 rfl (by kernel_rfl) (by decide) rfl ?_
  refine wk_store1 (i := Tryz.t40) rfl rfl h0 (by kernel_rfl) rfl rfl rfl (show 0 < 26 by decide) ?_
  refine wk_nil ?_
  exact wk_end0 (fun _ _ h => h) rfl ⟨rfl, setRow_heap _ _ _ ((dv_BrokerRegistrationRequest 0).toArray.setIfInBounds 0 (.int .i16 n)) _ _ h0, below_row (Below.refl b w) (Nat.le_refl b) _⟩
abbrev VOK_BrokerRegistrationRequest (ver : Nat) (S : Sch) : Prop := VerOK nT aR 101 6000 Tryz.f29 Tryz.f18 4 ks_BrokerRegistrationRequest (dv_BrokerRegistrationRequest ver) [some (.int .i16 (ver : Int))] S
noncomputable def ver_BrokerRegistrationRequest (v : Nat) : Option Sch := verS nT aR 101 6000 Tryz.f29 Tryz.f18 4 ks_BrokerRegistrationRequest (dv_BrokerRegistrationRequest v) [some (.int .i16 (v : Int))]
theorem rd_BrokerRegistrationRequest {E : Value} {ver : Nat} {S : Sch} {cs : List CV} (V : VOK_BrokerRegistrationRequest ver S) (hcs : cvs0 ks_BrokerRegistrationRequest (dv_BrokerRegistrationRequest ver) = some cs) (w : World) (b0 : Nat) (sv : Value) (l : List UInt8) (hb0 : w.heap[b0]? = some (.cells (dv_BrokerRegistrationRequest ver).toArray 66 (0, 0)))
    (hsrc : SrcRep w (fun b => b = b0) sv (srcO l)) (hl : l.length < 2000000000) (hone : sv.oneCell' = true) (hg : w.cell? ⟨1, 0, none⟩ = some E) (hg0 : 1 ≠ b0) :
    Calls Tryz.prog 17 #[.pointer (some ⟨b0, 0, none⟩), sv] w fun e w' => w.grownBy w' (some b0) ∧ ∃ bad, e = .returned (errV E bad) ∧ (bad = true → againR S cs l = none) ∧
      (bad = false → ∃ out vals, againR S cs l = some (runW (wOf S) out) ∧ (runW (wOf S) out).length ≤ 32 * l.length ∧ MsgAt w' b0 66 ks_BrokerRegistrationRequest out vals ∧ ∀ k m, cs[0]? = some (.int k m) → vals[0]? = some (.int k m)) := by
  refine calls_wk (args := [.pointer (some ⟨b0, 0, none⟩), sv]) Tryz.func17 rfl rfl ?_
  refine wk_seq ?_
  refine wk_reg (id := 0) ?_
  refine wk_assign rfl rfl ?_
  refine wk_nil ?_
  refine wk_seq ?_
  refine wk_reg (id := 1) ?_
  refine wk_move rfl rfl ?_
  refine wk_move rfl rfl ?_
  refine wk_call Tryz.call29 (vs := [.pointer (some ⟨b0, 0, none⟩), sv, .bool false]) rfl rfl ((ver_read nTabOK (aROK E) rBuild rInfo rfl rfl V Tryz.func29 hcs w b0 66 sv l hb0 hsrc hl hone hg hg0).mono ?_)
  rintro e w1 ⟨hg1, bad, rfl, h1, h2⟩
  refine ⟨_, rfl, ?_⟩
  refine wk_assign rfl rfl ?_
  refine wk_nil ?_
  exact wk_ret r0 rfl rfl ⟨hg1, bad, rfl, h1, h2⟩
theorem c_Again_BrokerRegistrationRequest {E : Value} (hE : ∃ u q, E = .iface u q) {ver : Nat} (hver : ver ≤ 4) {S : Sch} {cs : List CV} (V : VOK_BrokerRegistrationRequest ver S) (hcs : cvs0 ks_BrokerRegistrationRequest (dv_BrokerRegistrationRequest ver) = some cs) (hc0 : cs[0]? = some (.int .i16 ver)) (w : World) (X : Nat → Prop) (sv : Value) (l : List UInt8) (hv : BytesRep0 w X sv l) (hl : l.length < 2000000000)
    (hg : w.cell? ⟨1, 0, none⟩ = some E) : Calls Tryz.prog 9 #[.int .i64 (ver : Int), sv] w fun e w' => ∃ d ok, e = .returned (.tuple #[d, .bool ok]) ∧ Below w.heap.size w w' ∧ (∀ a, againR S cs l = some a → ok = true ∧ Own w' w.heap.size 5 d a) ∧ (againR S cs l = none → ok = false) := by
  have hw : IntKind.i16.wrap (ver : Int) = ver := i16w _ (by omega) (by omega)
  have hgl : 1 < w.heap.size := lt_of_cell hg
  refine calls_wk (args := [.int .i64 (ver : Int), sv]) Tryz.func9 rfl rfl ?_
  refine wk_seq ?_
  refine wk_reg (id := 0) ?_
  refine wk_assign rfl rfl ?_
  refine wk_assign rfl rfl ?_
  refine wk_nil ?_
  refine wk_seq ?_
  refine wk_reg (id := 1) ?_
  refine wk_call Tryz.call11 (vs := []) rfl rfl ((c_NewPtr_BrokerRegistrationRequest w).mono ?_)
  rintro e w1 ⟨rfl, h1, hb1⟩
  refine ⟨_, rfl, ?_⟩
  refine wk_assign rfl rfl ?_
  refine wk_nil ?_
  refine wk_seq ?_
  refine wk_reg (id := 2) ?_
  refine wk_move rfl rfl ?_
  refine wk_move rfl rfl ?_
  refine wk_convV rfl Tryz.underlying3 Tryz.underlying40 (by with_reducible assumption) rfl ?_
  refine wk_call Tryz.call16 (vs := [.pointer (some ⟨w.heap.size, 0, none⟩), .int .i16 (ver : Int)]) rfl rfl ((c_SetV_BrokerRegistrationRequest w1 w.heap.size ver h1).mono ?_)
  rintro e w2 ⟨rfl, h2, hb2⟩
  refine ⟨_, rfl, ?_⟩
  have hb02 := hb1.trans hb2
  refine wk_nil ?_
  refine wk_seq ?_
  refine wk_seq ?_
  refine wk_reg (id := 3) ?_
  refine wk_move rfl rfl ?_
  refine wk_move rfl rfl ?_
  refine wk_appsrc byteT rfl (hv.keep (keeps_below hb02 (Nat.le_refl _))) (Nat.le_trans (Nat.le_of_lt hl) (by decide)) rfl ?_
  intro d3 w3 hsrc hone hb3
  have hb03 := hb02.trans (hb3.mono hb02.size)
  have h3 := (hb3.block _ (lt_of_some h2)).trans h2
  skip
  refine wk_call Tryz.call17 (vs := [.pointer (some ⟨w.heap.size, 0, none⟩), d3]) rfl rfl ((rd_BrokerRegistrationRequest V hcs w3 w.heap.size d3 l h3 (hsrc.mono (fun b _ hb => by have := lt_of_some h2; have hb : b = w.heap.size := hb; omega)) hl hone ((hb03.cell (p := ⟨1, 0, none⟩) hgl).trans hg) (by omega)).mono ?_)
  rintro e w4 ⟨hg4, bad, rfl, hbad, hgood⟩
  refine ⟨_, rfl, ?_⟩
  have hb04 := hb03.trans (below_grown1 hg4 (Nat.le_refl _) hb03.size)
  skip
  refine wk_neqnil (E := E) (bad := bad) rfl Tryz.underlying50 hE rfl ?_
  cases bad with
  | true =>
    refine wk_nil ?_
    refine wk_condT rfl ?_
    refine wk_seq ?_
    refine wk_reg (id := 4) ?_
    refine wk_assign rfl rfl ?_
    refine wk_assign rfl rfl ?_
    refine wk_nil ?_
    exact wk_ret2 r0 rfl rfl rfl ⟨_, _, rfl, hb04, (fun a h => by rw [hbad rfl] at h; cases h), (fun _ => rfl)⟩
  | false =>
    obtain ⟨out, vals, h5, h6, h7, h8⟩ := hgood rfl
    refine wk_nil ?_
    refine wk_condF rfl ?_
    refine wk_skip ?_
    refine wk_seq ?_
    refine wk_reg (id := 5) ?_
    refine wk_move rfl rfl ?_
    refine wk_call Tryz.call18 (vs := [.pointer (some ⟨w.heap.size, 0, none⟩), .slice none 0 0]) rfl rfl ((ver_write nTabOK nConts V Tryz.func18 rfl rfl h7 (fun o v h => by
      cases o with
      | zero => simp only [List.getElem?_cons_zero, Option.some.injEq] at h; subst h; exact h8 _ _ hc0
      | succ o => simp at h) (by rw [lim_eq]; omega)).mono ?_)
    rintro e w5 ⟨d5, rfl, ho5, hb5⟩
    refine ⟨_, rfl, ?_⟩
    refine wk_assign rfl rfl ?_
    refine wk_assign rfl rfl ?_
    refine wk_nil ?_
    exact wk_ret2 r0 rfl rfl rfl ⟨_, _, rfl, hb04.trans (hb5.mono hb04.size), (fun a h => by rw [h5] at h; cases h; exact ⟨rfl, own_mono ho5 hb04.size⟩), (fun h => by rw [h5] at h; cases h)⟩
end Go.Proofs.YthejiimocbfagabGreatDoor
