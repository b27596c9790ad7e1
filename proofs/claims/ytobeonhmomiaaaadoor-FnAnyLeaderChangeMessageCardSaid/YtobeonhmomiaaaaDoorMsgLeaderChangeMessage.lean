/-
  The message LeaderChangeMessage, which says its version itself: read, and written again.
-/
import Derived.Test.YtobeonhmomiaaaaDoorAgBase
import Derived.Test.YtobeonhmomiaaaaDoorRAgainK
import Derived.Test.YtobeonhmomiaaaaDoorAgTree
set_option linter.unusedVariables false
set_option linter.unusedSimpArgs false
namespace Go.Proofs.YtobeonhmomiaaaaDoor
open Go Go.RowKit Go.Proofs.Eng
set_option maxRecDepth 20000
set_option maxHeartbeats 4000000

/-! ## the message -/
def ks_LeaderChangeMessage : List K := [.int .i16, .int .i32, .arr [.int .i32, .int .u8, .int .u8, .int .u8, .int .u8, .int .u8, .int .u8, .int .u8, .int .u8, .int .u8, .int .u8, .int .u8, .int .u8, .int .u8, .int .u8, .int .u8, .int .u8, .tags false], .arr [.int .i32, .int .u8, .int .u8, .int .u8, .int .u8, .int .u8, .int .u8, .int .u8, .int .u8, .int .u8, .int .u8, .int .u8, .int .u8, .int .u8, .int .u8, .int .u8, .int .u8, .tags false], .tags false]
def dv_LeaderChangeMessage : List Value := [.int .i16 0, .int .i32 0, .slice none 0 0, .slice none 0 0, .map none]
noncomputable def todo_LeaderChangeMessage : List TD := [.code (dropC 5 (Tryd.f91.body.getD .skip))]
noncomputable def S_LeaderChangeMessage_0 : Sch := (verK nT aR Tryd.f91.ntmps 6 6000 todo_LeaderChangeMessage 7 8 Tryd.f48 4 ks_LeaderChangeMessage dv_LeaderChangeMessage (-32768) (-1)).getD .nil
theorem V_LeaderChangeMessage_0 : VerKOK nT aR Tryd.f91.ntmps 6 6000 todo_LeaderChangeMessage 7 8 Tryd.f48 4 ks_LeaderChangeMessage dv_LeaderChangeMessage (-32768) (-1) S_LeaderChangeMessage_0 := by
  have h : (verK nT aR Tryd.f91.ntmps 6 6000 todo_LeaderChangeMessage 7 8 Tryd.f48 4 ks_LeaderChangeMessage dv_LeaderChangeMessage (-32768) (-1)).isSome = true := by kernel_rfl
  obtain ⟨S, hS⟩ := Option.isSome_iff_exists.1 h
  have e : S_LeaderChangeMessage_0 = S := by unfold S_LeaderChangeMessage_0; rw [hS]; rfl
  rw [e]
  exact verK_ok hS
noncomputable def S_LeaderChangeMessage_1 : Sch := (verK nT aR Tryd.f91.ntmps 6 6000 todo_LeaderChangeMessage 7 8 Tryd.f48 4 ks_LeaderChangeMessage dv_LeaderChangeMessage 0 0).getD .nil
theorem V_LeaderChangeMessage_1 : VerKOK nT aR Tryd.f91.ntmps 6 6000 todo_LeaderChangeMessage 7 8 Tryd.f48 4 ks_LeaderChangeMessage dv_LeaderChangeMessage 0 0 S_LeaderChangeMessage_1 := by
  have h : (verK nT aR Tryd.f91.ntmps 6 6000 todo_LeaderChangeMessage 7 8 Tryd.f48 4 ks_LeaderChangeMessage dv_LeaderChangeMessage 0 0).isSome = true := by kernel_rfl
  obtain ⟨S, hS⟩ := Option.isSome_iff_exists.1 h
  have e : S_LeaderChangeMessage_1 = S := by unfold S_LeaderChangeMessage_1; rw [hS]; rfl
  rw [e]
  exact verK_ok hS
noncomputable def S_LeaderChangeMessage_2 : Sch := (verK nT aR Tryd.f91.ntmps 6 6000 todo_LeaderChangeMessage 7 8 Tryd.f48 4 ks_LeaderChangeMessage dv_LeaderChangeMessage 1 32767).getD .nil
theorem V_LeaderChangeMessage_2 : VerKOK nT aR Tryd.f91.ntmps 6 6000 todo_LeaderChangeMessage 7 8 Tryd.f48 4 ks_LeaderChangeMessage dv_LeaderChangeMessage 1 32767 S_LeaderChangeMessage_2 := by
  have h : (verK nT aR Tryd.f91.ntmps 6 6000 todo_LeaderChangeMessage 7 8 Tryd.f48 4 ks_LeaderChangeMessage dv_LeaderChangeMessage 1 32767).isSome = true := by kernel_rfl
  obtain ⟨S, hS⟩ := Option.isSome_iff_exists.1 h
  have e : S_LeaderChangeMessage_2 = S := by unfold S_LeaderChangeMessage_2; rw [hS]; rfl
  rw [e]
  exact verK_ok hS
noncomputable def cls_LeaderChangeMessage (x : Int) : Sch := if x ≤ (-1) then S_LeaderChangeMessage_0 else if x ≤ 0 then S_LeaderChangeMessage_1 else S_LeaderChangeMessage_2
theorem pick_LeaderChangeMessage (x : Int) (h1 : -32768 ≤ x) (h2 : x ≤ 32767) : ∃ lo hi : Int, lo ≤ x ∧ x ≤ hi ∧ VerKOK nT aR Tryd.f91.ntmps 6 6000 todo_LeaderChangeMessage 7 8 Tryd.f48 4 ks_LeaderChangeMessage dv_LeaderChangeMessage lo hi (cls_LeaderChangeMessage x) := by
  unfold cls_LeaderChangeMessage
  by_cases c0 : x ≤ (-1)
  · rw [if_pos c0]
    exact ⟨(-32768), (-1), by omega, by omega, V_LeaderChangeMessage_0⟩
  by_cases c1 : x ≤ 0
  · rw [if_neg c0, if_pos c1]
    exact ⟨0, 0, by omega, by omega, V_LeaderChangeMessage_1⟩
  rw [if_neg c0, if_neg c1]
  exact ⟨1, 32767, by omega, by omega, V_LeaderChangeMessage_2⟩
theorem clsO_LeaderChangeMessage (x : Int) : SOk (cls_LeaderChangeMessage x) 1 ks_LeaderChangeMessage.length = true := by
  unfold cls_LeaderChangeMessage
  repeat' split
  · exact V_LeaderChangeMessage_0.ok
  · exact V_LeaderChangeMessage_1.ok
  · exact V_LeaderChangeMessage_2.ok
theorem clsS_LeaderChangeMessage {cs : List CV} (hcs : cvs0 ks_LeaderChangeMessage dv_LeaderChangeMessage = some cs) (x : Int) : SOk (.prim .i16 0 (cls_LeaderChangeMessage x)) 0 cs.length = true := by
  rw [(cvs0_ok hcs).2.1.1]
  exact soK (clsO_LeaderChangeMessage x) (by decide)
theorem cs_LeaderChangeMessage : ∃ cs, cvs0 ks_LeaderChangeMessage dv_LeaderChangeMessage = some cs := Option.isSome_iff_exists.1 (by kernel_rfl)
theorem rf_LeaderChangeMessage {E : Value} {cs : List CV} (hcs : cvs0 ks_LeaderChangeMessage dv_LeaderChangeMessage = some cs) (w : World) (b0 : Nat) (sv : Value) (l : List UInt8) (hb0 : w.heap[b0]? = some (.cells dv_LeaderChangeMessage.toArray 71 (0, 0)))
    (hsrc : SrcRep w (fun b => b = b0) sv (srcO l)) (hl : l.length < 2000000000) (hone : sv.oneCell' = true) (hg : w.cell? ⟨1, 0, none⟩ = some E) (hg0 : 1 ≠ b0) :
    Calls Tryd.prog 91 #[.pointer (some ⟨b0, 0, none⟩), sv, .bool false] w fun e w' => w.grownBy w' (some b0) ∧ ∃ bad, e = .returned (errV E bad) ∧ (bad = true → againK cls_LeaderChangeMessage cs l = none) ∧ (bad = false → ∃ out vals, againK cls_LeaderChangeMessage cs l = some (runW (wOf (.prim .i16 0 (cls_LeaderChangeMessage (verOf l)))) out) ∧ (runW (wOf (.prim .i16 0 (cls_LeaderChangeMessage (verOf l)))) out).length ≤ 32 * l.length ∧ MsgAt w' b0 71 ks_LeaderChangeMessage out vals ∧ vals[0]? = some (.int .i16 (verOf l))) := by
  obtain ⟨A0, n0, c0, rfl⟩ : ∃ A n c, sv = .slice A n c := by
    cases hs : srcO l with
    | none => rw [hs] at hsrc; exact ⟨_, _, _, hsrc⟩
    | some q => rw [hs] at hsrc; obtain ⟨b, o, n, c, e, _⟩ := hsrc; exact ⟨_, _, _, e⟩
  obtain ⟨lo, hi, hlo, hhi, V⟩ := pick_LeaderChangeMessage (verOf l) (verOf_le l).1 (verOf_le l).2
  obtain ⟨r, hrun, hrk⟩ := V.rd
  have hgl := lt_of_cell hg
  simp only at hgl
  have hb0l := lt_of_some hb0
  refine calls_wk (args := [.pointer (some ⟨b0, 0, none⟩), .slice A0 n0 c0, .bool false]) Tryd.func91 rfl rfl ?_
  refine wk_seq ?_
  refine wk_reg (id := 0) ?_
  refine wk_assign rfl rfl ?_
  refine wk_nil ?_
  refine wk_seq ?_
  refine wk_reg (id := 1) ?_
  refine wk_move rfl rfl ?_
  refine wk_call Tryd.call90 (vs := [.pointer (some ⟨b0, 0, none⟩)]) rfl rfl ((dc_90 w b0 0 dv_LeaderChangeMessage.toArray 71 hb0 (by decide)).mono ?_)
  rintro e w1 ⟨rfl, h1, hg1⟩
  refine ⟨_, rfl, ?_⟩
  have h1 : w1.heap[b0]? = some (.cells dv_LeaderChangeMessage.toArray 71 (0, 0)) := h1
  have hsz1 := hg1.size
  refine wk_nil ?_
  refine wk_seq ?_
  refine wk_reg (id := 2) ?_
  refine wk_move rfl rfl ?_
  refine wk_build (vs := [(0, .slice A0 n0 c0)]) (cells := #[.slice A0 n0 c0, .bool false]) rfl (rBuild A0 n0 c0) rfl ?_
  refine wk_alloc (t := 146) (i := Tryd.t146) (by kernel_rfl) rfl rfl ?_
  refine wk_storeNew (i := Tryd.t146) (c' := #[.slice A0 n0 c0, .bool false]) rfl rfl rInfo rfl rfl (one2 hone rfl) ?_
  have hrow2 := heap_alloc_new w1 (.cells #[.slice A0 n0 c0, .bool false] 146)
  have hb2 := below1 w1 (.cells #[.slice A0 n0 c0, .bool false] 146)
  generalize hw2 : w1.alloc (.cells #[.slice A0 n0 c0, .bool false] 146) = w2
  rw [hw2] at hrow2 hb2
  have hbel : Below w.heap.size w w2 → True := fun _ => trivial
  have hlt2 : ∀ b, (b = b0 ∨ b = w1.heap.size) → b < w2.heap.size := fun b hb => by have := lt_of_some hrow2; rcases hb with rfl | rfl <;> omega
  have hkw2 : Keeps (fun b => b = b0) w w2 := ⟨by have := hb2.size; omega, fun k hk hne => (hb2.block k (by omega)).trans (hg1.block k hk (fun e => hne (by cases e; rfl)))⟩
  have hsrc2 : SrcRep w2 (fun b => b = b0 ∨ b = w1.heap.size) (.slice A0 n0 c0) (srcO l) :=
    (hsrc.mono (Y := fun b => b = b0 ∨ b = w1.heap.size) (fun k hk h => h.elim (fun e => e) (fun e => by omega))).keep ⟨hkw2.1, fun k hk hne => hkw2.2 k hk (fun e => hne (.inl e))⟩
  have hRd : RdOK w2 (fun b => b = b0 ∨ b = w1.heap.size) 146 w1.heap.size ⟨srcO l, false⟩ := ⟨_, hrow2, hsrc2⟩
  refine wk_nil ?_
  refine wk_seq ?_
  refine wk_reg (id := 3) ?_
  refine wk_move rfl rfl ?_
  refine wk_call Tryd.call100 (vs := [.pointer (some ⟨w1.heap.size, 0, none⟩)]) rfl rfl ((rd_Int16 w2 (fun b => b = b0 ∨ b = w1.heap.size) w1.heap.size ⟨srcO l, false⟩ hRd (.inr rfl) hlt2).mono ?_)
  rintro e w3 ⟨v3, rfl, hv3, hRd3, hg3⟩
  refine ⟨_, rfl, ?_⟩
  obtain ⟨c3, hc3, hv3⟩ : ∃ c, (rprim .i16 ⟨srcO l, false⟩).1 = [c] ∧ Rep w3 (fun b => b = b0 ∨ b = w1.heap.size) v3 c := hv3
  obtain rfl : CV.int .i16 (verOf l) = c3 := by
    have e : (rprim .i16 ⟨srcO l, false⟩).1 = [.int .i16 (verOf l)] := rfl
    rw [e] at hc3
    exact List.head_eq_of_cons_eq hc3
  obtain rfl := hv3.int_inv
  have hsz2 := hb2.size
  have hsz3 := hg3.size
  have hne : b0 ≠ w1.heap.size := by omega
  have h2 : w2.heap[b0]? = some (.cells dv_LeaderChangeMessage.toArray 71 (0, 0)) := (hb2.block b0 (by omega)).trans h1
  have h3 : w3.heap[b0]? = some (.cells dv_LeaderChangeMessage.toArray 71 (0, 0)) := (hg3.block b0 (by omega) (fun e => by have := Option.some.inj e; omega)).trans h2
  have hg2c : w3.cell? ⟨1, 0, none⟩ = some E := by
    rw [← hg]
    exact World.cell?_of_block (a := ⟨1, 0, none⟩) ((hg3.block 1 (by omega) (fun e => by have := Option.some.inj e; omega)).trans ((hb2.block 1 (by omega)).trans (hg1.block 1 hgl (fun e => hg0 (by cases e; rfl)))))
  have hS := strK (g := 1) (E := E) h3 hRd3 hne (fun b hb => Nat.lt_of_lt_of_le (hlt2 b hb) hsz3) hcs (by decide) hg2c (fun h => h.elim hg0 (fun e => by omega)) (verOf l)
  have h4 := setRow_heap w3 b0 _ (dv_LeaderChangeMessage.toArray.setIfInBounds 0 (.int .i16 (verOf l))) 71 (0, 0) h3
  refine wk_nilCheck rfl rfl ?_
  refine wk_field (f := 0) (i := Tryd.t48) rfl Tryd.underlying71 rfl (by kernel_rfl) (by decide) rfl ?_
  refine wk_store1 (i := Tryd.t48) rfl rfl h3 (by kernel_rfl) rfl rfl rfl (show 0 < 5 by decide) ?_
  refine wk_nil ?_
  refine wk_seq ?_
  refine wk_reg (id := 4) ?_
  refine wk_move rfl rfl ?_
  refine wk_nilCheck rfl rfl ?_
  refine wk_field (f := 0) (i := Tryd.t48) rfl Tryd.underlying71 rfl (by kernel_rfl) (by decide) rfl ?_
  refine wk_load (v := .int .i16 (verOf l)) rfl Tryd.underlying48 rfl (cell_blk h4 rfl) rfl ?_
  refine wk_assign rfl rfl ?_
  refine wk_nil ?_
  refine wk_byT fun a ha => ?_
  refine tailK nTabOK (aROK E) hrun hlo hhi hS (by simp) (fun k hk => by rw [List.getElem?_set_ne (by omega)]) ha rfl rfl rfl rfl rfl ?_
  intro w' bad hT hgood hbad
  rw [hrk] at hgood hbad
  refine ⟨grownK hg1 hb2 hg3 hT, bad, rfl, fun hb => readK_bad rfl (hbad hb), fun hb => ?_⟩
  obtain ⟨out, s', vals', k1, k2, k3, k4, k5, k6⟩ := hgood hb
  obtain ⟨q1, q2, q3, q4⟩ := readK_post rfl (clsS_LeaderChangeMessage hcs) V.kinds (clsO_LeaderChangeMessage (verOf l)) rfl (cvs0_ok hcs).2.1.1 (cvs0_ok hcs).2.1 hl k1 k2 k3 k4 (k5.trans (by rw [List.length_set]; exact V.len)) k6
  exact ⟨out, vals', q1, q2, q3, q4⟩
theorem rd_LeaderChangeMessage {E : Value} {cs : List CV} (hcs : cvs0 ks_LeaderChangeMessage dv_LeaderChangeMessage = some cs) (w : World) (b0 : Nat) (sv : Value) (l : List UInt8) (hb0 : w.heap[b0]? = some (.cells dv_LeaderChangeMessage.toArray 71 (0, 0)))
    (hsrc : SrcRep w (fun b => b = b0) sv (srcO l)) (hl : l.length < 2000000000) (hone : sv.oneCell' = true) (hg : w.cell? ⟨1, 0, none⟩ = some E) (hg0 : 1 ≠ b0) :
    Calls Tryd.prog 47 #[.pointer (some ⟨b0, 0, none⟩), sv] w fun e w' => w.grownBy w' (some b0) ∧ ∃ bad, e = .returned (errV E bad) ∧ (bad = true → againK cls_LeaderChangeMessage cs l = none) ∧ (bad = false → ∃ out vals, againK cls_LeaderChangeMessage cs l = some (runW (wOf (.prim .i16 0 (cls_LeaderChangeMessage (verOf l)))) out) ∧ (runW (wOf (.prim .i16 0 (cls_LeaderChangeMessage (verOf l)))) out).length ≤ 32 * l.length ∧ MsgAt w' b0 71 ks_LeaderChangeMessage out vals ∧ vals[0]? = some (.int .i16 (verOf l))) := by
  refine calls_wk (args := [.pointer (some ⟨b0, 0, none⟩), sv]) Tryd.func47 rfl rfl ?_
  refine wk_seq ?_
  refine wk_reg (id := 0) ?_
  refine wk_assign rfl rfl ?_
  refine wk_nil ?_
  refine wk_seq ?_
  refine wk_reg (id := 1) ?_
  refine wk_move rfl rfl ?_
  refine wk_move rfl rfl ?_
  refine wk_call Tryd.call91 (vs := [.pointer (some ⟨b0, 0, none⟩), sv, .bool false]) rfl rfl ((rf_LeaderChangeMessage hcs w b0 sv l hb0 hsrc hl hone hg hg0).mono ?_)
  rintro e w1 ⟨hg1, bad, rfl, h1, h2⟩
  refine ⟨_, rfl, ?_⟩
  refine wk_assign rfl rfl ?_
  refine wk_nil ?_
  exact wk_ret r0 rfl rfl ⟨hg1, bad, rfl, h1, h2⟩
theorem c_New_LeaderChangeMessage (w : World) : Calls Tryd.prog 46 #[] w fun e w' => e = .returned (.agg #[.int .i16 0, .int .i32 0, .slice none 0 0, .slice none 0 0, .map none]) ∧ Below w.heap.size w w' := by
  have hZ1 := heap_alloc_new w (.cells #[.int .i16 0, .int .i32 0, .slice none 0 0, .slice none 0 0, .map none] 71)
  have hZ2 := heap_alloc_new (w.alloc (.cells #[.int .i16 0, .int .i32 0, .slice none 0 0, .slice none 0 0, .map none] 71)) (.cells #[.int .i16 0, .int .i32 0, .slice none 0 0, .slice none 0 0, .map none] 71)
  have hb1 := below1 w (.cells #[.int .i16 0, .int .i32 0, .slice none 0 0, .slice none 0 0, .map none] 71)
  have hb12 := below1 (w.alloc (.cells #[.int .i16 0, .int .i32 0, .slice none 0 0, .slice none 0 0, .map none] 71)) (.cells #[.int .i16 0, .int .i32 0, .slice none 0 0, .slice none 0 0, .map none] 71)
  have hZ1b := (hb12.block _ (lt_of_some hZ1)).trans hZ1
  have hb2 := hb1.trans (hb12.mono hb1.size)
  refine calls_wk (args := []) Tryd.func46 rfl rfl ?_
  refine wk_seq ?_
  refine wk_reg (id := 0) ?_
  refine wk_alloc (t := 71) (i := Tryd.t71) (by kernel_rfl) rfl rfl ?_
  refine wk_nil ?_
  refine wk_seq ?_
  refine wk_reg (id := 1) ?_
  refine wk_alloc (t := 71) (i := Tryd.t71) (by kernel_rfl) rfl rfl ?_
  refine wk_nil ?_
  refine wk_seq ?_
  refine wk_reg (id := 2) ?_
  refine wk_call Tryd.call90 (vs := [.pointer (some ⟨(w.alloc (.cells #[.int .i16 0, .int .i32 0, .slice none 0 0, .slice none 0 0, .map none] 71)).heap.size, 0, none⟩)]) rfl rfl ((dc_90 _ _ 0 #[.int .i16 0, .int .i32 0, .slice none 0 0, .slice none 0 0, .map none] 71 hZ2 (by decide)).mono ?_)
  rintro e w3 ⟨rfl, h3, hg3⟩
  refine ⟨_, rfl, ?_⟩
  have h3 : w3.heap[(w.alloc (.cells #[.int .i16 0, .int .i32 0, .slice none 0 0, .slice none 0 0, .map none] 71)).heap.size]? = some (.cells #[.int .i16 0, .int .i32 0, .slice none 0 0, .slice none 0 0, .map none] 71 (0, 0)) := h3
  have hne : w.heap.size ≠ (w.alloc (.cells #[.int .i16 0, .int .i32 0, .slice none 0 0, .slice none 0 0, .map none] 71)).heap.size := by have := lt_of_some hZ1; omega
  have hZ3 : w3.heap[w.heap.size]? = some (.cells #[.int .i16 0, .int .i32 0, .slice none 0 0, .slice none 0 0, .map none] 71 (0, 0)) := (hg3.block _ (lt_of_some hZ1b) (fun e => hne (Option.some.inj e))).trans hZ1b
  have hb3 : Below w.heap.size w w3 := hb2.trans (below_grown1 hg3 hb1.size hb2.size)
  refine wk_nil ?_
  refine wk_seq ?_
  refine wk_reg (id := 3) ?_
  first
    | refine wk_loadA (i := Tryd.t71) rfl Tryd.underlying71 rfl (by kernel_rfl) (vs := [.int .i16 0, .int .i32 0, .slice none 0 0, .slice none 0 0, .map none]) rfl (cells_blk h3) rfl ?_
    | skip
  skip
  refine wk_storeRow (i := Tryd.t71) (cs := #[.int .i16 0, .int .i32 0, .slice none 0 0, .slice none 0 0, .map none]) rfl rfl hZ3 (by kernel_rfl) rfl rfl (by kernel_rfl) ?_
  refine wk_nil ?_
  exact wk_retc r0 rfl rfl (loadVar_cells (vs := [.int .i16 0, .int .i32 0, .slice none 0 0, .slice none 0 0, .map none]) Tryd.underlying71 rfl (show Tryd.prog.info? 71 = some Tryd.t71 by kernel_rfl) rfl (cells_blk (setRow_heap _ _ _ _ _ _ hZ3))) ⟨rfl, below_setRow hb3 (Nat.le_refl _) _⟩
theorem c_Again_LeaderChangeMessage {E : Value} (hE : ∃ u q, E = .iface u q) {cs : List CV} (hcs : cvs0 ks_LeaderChangeMessage dv_LeaderChangeMessage = some cs) (w : World) (X : Nat → Prop) (sv : Value) (l : List UInt8) (hv : BytesRep0 w X sv l) (hl : l.length < 2000000000)
    (hg : w.cell? ⟨1, 0, none⟩ = some E) : Calls Tryd.prog 23 #[sv] w fun e w' => ∃ d ok, e = .returned (.tuple #[d, .bool ok]) ∧ Below w.heap.size w w' ∧ (∀ a, againK cls_LeaderChangeMessage cs l = some a → ok = true ∧ Own w' w.heap.size 5 d a) ∧ (againK cls_LeaderChangeMessage cs l = none → ok = false) := by
  have hgl : 1 < w.heap.size := lt_of_cell hg
  obtain ⟨lo, hi, hlo, hhi, V⟩ := pick_LeaderChangeMessage (verOf l) (verOf_le l).1 (verOf_le l).2
  refine calls_wk (args := [sv]) Tryd.func23 rfl rfl ?_
  refine wk_seq ?_
  refine wk_reg (id := 0) ?_
  refine wk_assign rfl rfl ?_
  refine wk_assign rfl rfl ?_
  refine wk_nil ?_
  refine wk_seq ?_
  refine wk_reg (id := 1) ?_
  refine wk_call Tryd.call46 (vs := []) rfl rfl ((c_New_LeaderChangeMessage w).mono ?_)
  rintro e w1 ⟨rfl, hb1⟩
  refine ⟨_, rfl, ?_⟩
  refine wk_alloc (t := 71) (i := Tryd.t71) (by kernel_rfl) rfl rfl ?_
  refine wk_storeNew (i := Tryd.t71) (c' := #[.int .i16 0, .int .i32 0, .slice none 0 0, .slice none 0 0, .map none]) rfl rfl (by kernel_rfl) rfl rfl (by kernel_rfl) ?_
  have h2 := heap_alloc_new w1 (.cells #[.int .i16 0, .int .i32 0, .slice none 0 0, .slice none 0 0, .map none] 71)
  have hb12 := below1 w1 (.cells #[.int .i16 0, .int .i32 0, .slice none 0 0, .slice none 0 0, .map none] 71)
  generalize hw2 : w1.alloc (.cells #[.int .i16 0, .int .i32 0, .slice none 0 0, .slice none 0 0, .map none] 71) = w2
  rw [hw2] at h2 hb12
  have hb02 := hb1.trans (hb12.mono hb1.size)
  have hsz1 := hb1.size
  refine wk_nil ?_
  refine wk_seq ?_
  refine wk_seq ?_
  refine wk_reg (id := 2) ?_
  refine wk_move rfl rfl ?_
  refine wk_appsrc byteT rfl (hv.keep (keeps_below hb02 (Nat.le_refl _))) (Nat.le_trans (Nat.le_of_lt hl) (by decide)) rfl ?_
  intro d3 w3 hsrc hone hb3
  have hb03 := hb02.trans (hb3.mono hb02.size)
  have h3 := (hb3.block _ (lt_of_some h2)).trans h2
  skip
  refine wk_call Tryd.call47 (vs := [.pointer (some ⟨w1.heap.size, 0, none⟩), d3]) rfl rfl ((rd_LeaderChangeMessage hcs w3 w1.heap.size d3 l h3 (hsrc.mono (fun b _ hb => by have := lt_of_some h2; have hb : b = w1.heap.size := hb; omega)) hl hone ((hb03.cell (p := ⟨1, 0, none⟩) hgl).trans hg) (by omega)).mono ?_)
  rintro e w4 ⟨hg4, bad, rfl, hbad, hgood⟩
  refine ⟨_, rfl, ?_⟩
  have hb04 := hb03.trans (below_grown1 hg4 hsz1 hb03.size)
  refine wk_neqnil (E := E) (bad := bad) rfl Tryd.underlying53 hE rfl ?_
  cases bad with
  | true =>
    refine wk_nil ?_
    refine wk_condT rfl ?_
    refine wk_seq ?_
    refine wk_reg (id := 3) ?_
    refine wk_assign rfl rfl ?_
    refine wk_assign rfl rfl ?_
    refine wk_nil ?_
    exact wk_ret2 r0 rfl rfl rfl ⟨_, _, rfl, hb04, (fun a h => by rw [hbad rfl] at h; cases h), (fun _ => rfl)⟩
  | false =>
    obtain ⟨out, vals, h5, h6, h7, h8⟩ := hgood rfl
    refine wk_nil ?_
    refine wk_condF rfl ?_
    refine wk_skip ?_
    refine wk_seq ?_
    refine wk_reg (id := 4) ?_
    refine wk_call Tryd.call48 (vs := [.pointer (some ⟨w1.heap.size, 0, none⟩), .slice none 0 0]) rfl rfl ((ver_writeK nTabOK nConts V Tryd.func48 rfl rfl h7 h8 hlo hhi (by rw [lim_eq]; omega)).mono ?_)
    rintro e w5 ⟨d5, rfl, ho5, hb5⟩
    refine ⟨_, rfl, ?_⟩
    refine wk_assign rfl rfl ?_
    refine wk_assign rfl rfl ?_
    refine wk_nil ?_
    exact wk_ret2 r0 rfl rfl rfl ⟨_, _, rfl, hb04.trans (hb5.mono hb04.size), (fun a h => by rw [h5] at h; cases h; exact ⟨rfl, own_mono ho5 hb04.size⟩), (fun h => by rw [h5] at h; cases h)⟩
end Go.Proofs.YtobeonhmomiaaaaDoor
