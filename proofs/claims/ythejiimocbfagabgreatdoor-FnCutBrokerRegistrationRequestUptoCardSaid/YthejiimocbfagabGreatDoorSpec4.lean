/-
  The reference: a value, a field; by the contract of a part.
-/
import Derived.Test.YthejiimocbfagabGreatDoorSpec3
set_option linter.unusedVariables false
set_option linter.unusedSimpArgs false
namespace Go.Proofs.YthejiimocbfagabGreatDoor
open Go Go.RowKit Go.Proofs.Eng
set_option maxRecDepth 20000

def PartC (G : List (Nat × List UInt8) → Prop) (d : Nat) : Prop :=
  ∀ (w : World) (X : Nat → Prop) (v : Value) (fs : List Fld) (vs : List Value) (t : Tree) (ver : Int) (flex : Bool), FRep w X v fs → TRep w X vs t → fsB d fs = true → TOk G t → (sPart d ver flex fs t).length ≤ lim →
    Calls Tryz.prog 13 #[v, .int .i64 ver, .bool flex, .agg vs.toArray] w fun e w' => ∃ d', e = .returned d' ∧ Own w' w.heap.size 5 d' (sPart d ver flex fs t) ∧ Below w.heap.size w w'
set_option maxHeartbeats 4000000

theorem and1_64 (n : Int) : IntKind.i64.wrap ((BitVec.ofInt 64 n &&& BitVec.ofInt 64 1).toNat) = n % 2 := by
  have h : (BitVec.ofInt 64 n &&& BitVec.ofInt 64 1).toNat = (n % 2).toNat := by
    rw [BitVec.toNat_and]
    have h1 : (BitVec.ofInt 64 n).toNat = (n % 18446744073709551616).toNat := by rw [BitVec.toNat_ofInt]; rfl
    have h2 : (BitVec.ofInt 64 1).toNat = 2 ^ 1 - 1 := rfl
    rw [h1, h2, Nat.and_two_pow_sub_one_eq_mod]
    omega
  rw [h, i64w _ (by omega) (by omega)]
  omega
theorem sWidth_le (n : Int) : sWidth n ≤ 8 := by unfold sWidth; (repeat' split) <;> omega

def ValueC (G : List (Nat × List UInt8) → Prop) (d : Nat) : Prop :=
  ∀ (w : World) (X : Nat → Prop) (kind : Int) (subv : Value) (sub : List Fld) (null : Bool) (ver : Int) (flex : Bool) (vs : List Value) (t : Tree), FRep w X subv sub → TRep w X vs t → fsB d sub = true → TOk G t →
    (sValue (sPart d ver flex) kind sub null flex t).length ≤ lim →
    Calls Tryz.prog 48 #[.int .i64 kind, subv, .bool null, .int .i64 ver, .bool flex, .agg vs.toArray] w fun e w' => ∃ d', e = .returned d' ∧ Own w' w.heap.size 5 d' (sValue (sPart d ver flex) kind sub null flex t) ∧ Below w.heap.size w w'

theorem value_any {G : List (Nat × List UInt8) → Prop} {d : Nat} (hP : PartC G d) : ValueC G d := by
  intro w X kind subv sub null ver flex vs t hF hT hfs hok hlen
  have hT0 := hT
  obtain ⟨N, S, nl, L, U, v1, v2, v3, cells, hN, hS, hL, hU, hr⟩ := hT
  have hwk : Below w.heap.size w (w.alloc (.cells (Value.agg #[.int .i64 N, v1, .bool nl, v2, v3]).cells 26)) := below1 _ _
  have hS1 := hS.keep (keeps_below hwk (Nat.le_refl _))
  refine calls_wk (args := [.int .i64 kind, subv, .bool null, .int .i64 ver, .bool flex, .agg #[.int .i64 N, v1, .bool nl, v2, v3]]) Tryz.func48 rfl rfl ?_
  by_cases k0 : kind = 0
  · subst k0
    refine wk_seq ?_
    refine wk_reg (id := 0) ?_
    refine wk_box rfl rfl ?_
    refine wk_assign rfl rfl ?_
    refine wk_nil ?_
    refine wk_seq ?_
    refine wk_seq ?_
    refine wk_reg (id := 1) ?_
    refine wk_move rfl rfl ?_
    refine wk_nil ?_
    refine wk_block ?_
    refine wk_seq ?_
    refine wk_reg (id := 2) ?_
    refine wk_cmp rfl rfl rfl rfl ?_
    refine wk_assign rfl rfl ?_
    refine wk_nil ?_
    refine wk_condT rfl ?_
    refine wk_seq ?_
    refine wk_reg (id := 3) ?_
    refine wk_field (f := 0) (i := Tryz.t2) rfl Tryz.underlying26 rfl (by kernel_rfl) (by decide) rfl ?_
    refine wk_load rfl Tryz.underlying2 rfl (by exact cell_new rfl) rfl ?_
    refine wk_and rfl rfl rfl ?_
    refine wk_conv rfl Tryz.underlying2 Tryz.underlying5 rfl ?_
    refine wk_bs1 byteT rfl rfl ?_
    refine wk_assign rfl rfl ?_
    refine wk_nil ?_
    refine wk_ret (rb r0) rfl rfl ⟨_, rfl, ?_, below2 _ _ _⟩
    refine own_mono (own_new (bs := sValue (sPart d ver flex) 0 sub null flex (.mk N S nl L U)) rfl ?_ (by simp [sValue]; decide)) (by simp)
    show _ = [bv (sBool N)]
    refine cons_eq ?_ rfl
    refine (congrArg (fun z => Value.int .u8 (IntKind.u8.wrap z)) (and1_64 N)).trans ((bv_wrap _).trans ?_)
    unfold sBool
    have h : N % 2 = 0 ∨ N % 2 = 1 := by omega
    rcases h with h | h <;> rw [h] <;> rfl
  by_cases k7 : kind = 7
  · subst k7
    refine wk_seq ?_
    refine wk_reg (id := 0) ?_
    refine wk_box rfl rfl ?_
    refine wk_assign rfl rfl ?_
    refine wk_nil ?_
    refine wk_seq ?_
    refine wk_seq ?_
    refine wk_reg (id := 1) ?_
    refine wk_move rfl rfl ?_
    refine wk_nil ?_
    refine wk_block ?_
    refine wk_seq ?_
    refine wk_reg (id := 2) ?_
    refine wk_cmp rfl rfl rfl rfl ?_
    refine wk_assign rfl rfl ?_
    refine wk_nil ?_
    refine wk_condF rfl ?_
    refine wk_seq ?_
    refine wk_reg (id := 4) ?_
    refine wk_cmp rfl rfl rfl rfl ?_
    refine wk_assign rfl rfl ?_
    refine wk_nil ?_
    refine wk_condT rfl ?_
    refine wk_seq ?_
    refine wk_reg (id := 5) ?_
    refine wk_make16 byteT rfl rfl rfl ?_
    refine wk_assign rfl rfl ?_
    refine wk_nil ?_
    refine wk_seq ?_
    refine wk_reg (id := 6) ?_
    refine wk_move rfl rfl ?_
    refine wk_field (f := 1) (i := Tryz.t22) rfl Tryz.underlying26 rfl (by kernel_rfl) (by decide) rfl ?_
    refine wk_load rfl Tryz.underlying22 rfl (by exact cell_new2 rfl) rfl ?_
    refine wk_copy16 byteT rfl rfl (hS1.keep (keeps_below (below1 _ _) (Nat.le_refl _))) rfl ?_
    intro u
    refine wk_nil ?_
    refine wk_seq ?_
    refine wk_reg (id := 7) ?_
    refine wk_move rfl rfl ?_
    refine wk_assign rfl rfl ?_
    refine wk_nil ?_
    refine wk_ret (rb r0) rfl rfl ⟨_, rfl, ?_, below2 _ _ _⟩
    have hs16 : (sUuid S).length = 16 := by simp [sUuid]; omega
    refine own_mono (own_new (bs := sUuid S) hs16 rfl (by rw [hs16]; decide)) (by simp)
  by_cases k8 : kind = 8
  · subst k8
    have hcap : (sCounted flex null (if null then [] else S.take 32767).length 2).length + (if null then [] else S.take 32767).length ≤ lim := by
      have := hlen
      simpa [sValue, sText, Tree.S] using this
    refine wk_seq ?_
    refine wk_reg (id := 0) ?_
    refine wk_box rfl rfl ?_
    refine wk_assign rfl rfl ?_
    refine wk_nil ?_
    refine wk_seq ?_
    refine wk_seq ?_
    refine wk_reg (id := 1) ?_
    refine wk_move rfl rfl ?_
    refine wk_nil ?_
    refine wk_block ?_
    refine wk_seq ?_
    refine wk_reg (id := 2) ?_
    refine wk_cmp rfl rfl rfl rfl ?_
    refine wk_assign rfl rfl ?_
    refine wk_nil ?_
    refine wk_condF rfl ?_
    refine wk_seq ?_
    refine wk_reg (id := 4) ?_
    refine wk_cmp rfl rfl rfl rfl ?_
    refine wk_assign rfl rfl ?_
    refine wk_nil ?_
    refine wk_condF rfl ?_
    refine wk_seq ?_
    refine wk_reg (id := 8) ?_
    refine wk_cmp rfl rfl rfl rfl ?_
    refine wk_assign rfl rfl ?_
    refine wk_nil ?_
    refine wk_condT rfl ?_
    refine wk_seq ?_
    refine wk_reg (id := 9) ?_
    refine wk_field (f := 1) (i := Tryz.t22) rfl Tryz.underlying26 rfl (by kernel_rfl) (by decide) rfl ?_
    refine wk_load rfl Tryz.underlying22 rfl (by exact cell_new rfl) rfl ?_
    refine wk_call Tryz.call28 (vs := [v1]) rfl rfl ((whole_any _ X v1 S hS1).mono ?_)
    rintro e w1 ⟨u, rfl, hu, rfl⟩
    refine ⟨u, rfl, ?_⟩
    have key : ∀ (v : Value) (bs : List UInt8), bs = (if null then [] else S.take 32767) → BytesRep0 (w.alloc (.cells (Value.agg #[.int .i64 N, v1, .bool nl, v2, v3]).cells 26)) X v bs →
        Calls Tryz.prog 47 #[.bool flex, .bool null, .int .i64 (bs.length : Int), .int .i64 ((2 : Nat) : Int)] (w.alloc (.cells (Value.agg #[.int .i64 N, v1, .bool nl, v2, v3]).cells 26))
          fun e w' => ∃ d', e = .returned d' ∧ Own w' w.heap.size 5 d' (sCounted flex null bs.length 2) ∧ Below w.heap.size w w' ∧ BytesRep0 w' X v bs := by
      intro v bs hbs hv
      have hbl : bs.length ≤ 32767 := by rw [hbs]; split <;> simp; omega
      refine (counted_any _ flex null bs.length 2 (by omega) (by omega)).mono ?_
      rintro e w' ⟨d', rfl, ho, hb⟩
      exact ⟨d', rfl, own_mono ho (by simp), hwk.trans (hb.mono (by simp)), hv.keep (keeps_below hb (Nat.le_refl _))⟩
    cases null with
    | true =>
      refine wk_assign rfl rfl ?_
      refine wk_nil ?_
      refine wk_seq ?_
      refine wk_seq ?_
      refine wk_reg (id := 10) ?_
      refine wk_move rfl rfl ?_
      refine wk_nil ?_
      refine wk_condT rfl ?_
      refine wk_reg (id := 11) ?_
      refine wk_assign rfl rfl ?_
      refine wk_nil ?_
      refine wk_seq ?_
      refine wk_reg (id := 12) ?_
      refine wk_move rfl rfl ?_
      refine wk_move rfl rfl ?_
      refine wk_move rfl rfl ?_
      refine wk_slen rfl Tryz.underlying22 rfl ?_
      refine wk_call Tryz.call47 (vs := [.bool flex, .bool true, .int .i64 ((0 : Nat) : Int), .int .i64 ((2 : Nat) : Int)]) rfl rfl ((key (.slice none 0 0) [] rfl (.inl ⟨⟨_, rfl⟩, rfl⟩)).mono ?_)
      rintro e w2 ⟨d', rfl, ho, hb, hv⟩
      refine ⟨d', rfl, ?_⟩
      refine wk_move rfl rfl ?_
      refine wk_append rfl rfl (app_rep byteT hv ho hb.size (by simpa using hcap)) rfl ?_
      intro d2 w3 ho3 hb3
      refine wk_assign rfl rfl ?_
      refine wk_nil ?_
      exact wk_ret (rb r0) rfl rfl ⟨d2, rfl, ho3, hb.trans hb3⟩
    | false =>
      obtain ⟨A, c, rfl, _⟩ := hu.form
      refine wk_assign rfl rfl ?_
      refine wk_nil ?_
      refine wk_seq ?_
      refine wk_seq ?_
      refine wk_reg (id := 10) ?_
      refine wk_move rfl rfl ?_
      refine wk_nil ?_
      refine wk_condF rfl ?_
      refine wk_skip ?_
      refine wk_seq ?_
      refine wk_reg (id := 12) ?_
      refine wk_move rfl rfl ?_
      refine wk_move rfl rfl ?_
      refine wk_move rfl rfl ?_
      refine wk_slen rfl Tryz.underlying22 rfl ?_
      refine wk_call Tryz.call47 (vs := [.bool flex, .bool false, .int .i64 ((S.take 32767).length : Int), .int .i64 ((2 : Nat) : Int)]) rfl rfl ((key _ (S.take 32767) rfl hu).mono ?_)
      rintro e w2 ⟨d', rfl, ho, hb, hv⟩
      refine ⟨d', rfl, ?_⟩
      refine wk_move rfl rfl ?_
      refine wk_append rfl rfl (app_rep byteT hv ho hb.size (by simpa using hcap)) rfl ?_
      intro d2 w3 ho3 hb3
      refine wk_assign rfl rfl ?_
      refine wk_nil ?_
      exact wk_ret (rb r0) rfl rfl ⟨d2, rfl, ho3, hb.trans hb3⟩
  by_cases k9 : kind = 9
  · subst k9
    have hcap : (sCounted flex null (if null then [] else S.take 32767).length 4).length + (if null then [] else S.take 32767).length ≤ lim := by
      have := hlen
      simpa [sValue, sText, Tree.S] using this
    refine wk_seq ?_
    refine wk_reg (id := 0) ?_
    refine wk_box rfl rfl ?_
    refine wk_assign rfl rfl ?_
    refine wk_nil ?_
    refine wk_seq ?_
    refine wk_seq ?_
    refine wk_reg (id := 1) ?_
    refine wk_move rfl rfl ?_
    refine wk_nil ?_
    refine wk_block ?_
    refine wk_seq ?_
    refine wk_reg (id := 2) ?_
    refine wk_cmp rfl rfl rfl rfl ?_
    refine wk_assign rfl rfl ?_
    refine wk_nil ?_
    refine wk_condF rfl ?_
    refine wk_seq ?_
    refine wk_reg (id := 4) ?_
    refine wk_cmp rfl rfl rfl rfl ?_
    refine wk_assign rfl rfl ?_
    refine wk_nil ?_
    refine wk_condF rfl ?_
    refine wk_seq ?_
    refine wk_reg (id := 8) ?_
    refine wk_cmp rfl rfl rfl rfl ?_
    refine wk_assign rfl rfl ?_
    refine wk_nil ?_
    refine wk_condF rfl ?_
    refine wk_seq ?_
    refine wk_reg (id := 13) ?_
    refine wk_cmp rfl rfl rfl rfl ?_
    refine wk_assign rfl rfl ?_
    refine wk_nil ?_
    refine wk_condT rfl ?_
    refine wk_seq ?_
    refine wk_reg (id := 14) ?_
    refine wk_field (f := 1) (i := Tryz.t22) rfl Tryz.underlying26 rfl (by kernel_rfl) (by decide) rfl ?_
    refine wk_load rfl Tryz.underlying22 rfl (by exact cell_new rfl) rfl ?_
    refine wk_call Tryz.call28 (vs := [v1]) rfl rfl ((whole_any _ X v1 S hS1).mono ?_)
    rintro e w1 ⟨u, rfl, hu, rfl⟩
    refine ⟨u, rfl, ?_⟩
    have key : ∀ (v : Value) (bs : List UInt8), bs = (if null then [] else S.take 32767) → BytesRep0 (w.alloc (.cells (Value.agg #[.int .i64 N, v1, .bool nl, v2, v3]).cells 26)) X v bs →
        Calls Tryz.prog 47 #[.bool flex, .bool null, .int .i64 (bs.length : Int), .int .i64 ((4 : Nat) : Int)] (w.alloc (.cells (Value.agg #[.int .i64 N, v1, .bool nl, v2, v3]).cells 26))
          fun e w' => ∃ d', e = .returned d' ∧ Own w' w.heap.size 5 d' (sCounted flex null bs.length 4) ∧ Below w.heap.size w w' ∧ BytesRep0 w' X v bs := by
      intro v bs hbs hv
      have hbl : bs.length ≤ 32767 := by rw [hbs]; split <;> simp; omega
      refine (counted_any _ flex null bs.length 4 (by omega) (by omega)).mono ?_
      rintro e w' ⟨d', rfl, ho, hb⟩
      exact ⟨d', rfl, own_mono ho (by simp), hwk.trans (hb.mono (by simp)), hv.keep (keeps_below hb (Nat.le_refl _))⟩
    cases null with
    | true =>
      refine wk_assign rfl rfl ?_
      refine wk_nil ?_
      refine wk_seq ?_
      refine wk_seq ?_
      refine wk_reg (id := 15) ?_
      refine wk_move rfl rfl ?_
      refine wk_nil ?_
      refine wk_condT rfl ?_
      refine wk_reg (id := 16) ?_
      refine wk_assign rfl rfl ?_
      refine wk_nil ?_
      refine wk_seq ?_
      refine wk_reg (id := 17) ?_
      refine wk_move rfl rfl ?_
      refine wk_move rfl rfl ?_
      refine wk_move rfl rfl ?_
      refine wk_slen rfl Tryz.underlying22 rfl ?_
      refine wk_call Tryz.call47 (vs := [.bool flex, .bool true, .int .i64 ((0 : Nat) : Int), .int .i64 ((4 : Nat) : Int)]) rfl rfl ((key (.slice none 0 0) [] rfl (.inl ⟨⟨_, rfl⟩, rfl⟩)).mono ?_)
      rintro e w2 ⟨d', rfl, ho, hb, hv⟩
      refine ⟨d', rfl, ?_⟩
      refine wk_move rfl rfl ?_
      refine wk_append rfl rfl (app_rep byteT hv ho hb.size (by simpa using hcap)) rfl ?_
      intro d2 w3 ho3 hb3
      refine wk_assign rfl rfl ?_
      refine wk_nil ?_
      exact wk_ret (rb r0) rfl rfl ⟨d2, rfl, ho3, hb.trans hb3⟩
    | false =>
      obtain ⟨A, c, rfl, _⟩ := hu.form
      refine wk_assign rfl rfl ?_
      refine wk_nil ?_
      refine wk_seq ?_
      refine wk_seq ?_
      refine wk_reg (id := 15) ?_
      refine wk_move rfl rfl ?_
      refine wk_nil ?_
      refine wk_condF rfl ?_
      refine wk_skip ?_
      refine wk_seq ?_
      refine wk_reg (id := 17) ?_
      refine wk_move rfl rfl ?_
      refine wk_move rfl rfl ?_
      refine wk_move rfl rfl ?_
      refine wk_slen rfl Tryz.underlying22 rfl ?_
      refine wk_call Tryz.call47 (vs := [.bool flex, .bool false, .int .i64 ((S.take 32767).length : Int), .int .i64 ((4 : Nat) : Int)]) rfl rfl ((key _ (S.take 32767) rfl hu).mono ?_)
      rintro e w2 ⟨d', rfl, ho, hb, hv⟩
      refine ⟨d', rfl, ?_⟩
      refine wk_move rfl rfl ?_
      refine wk_append rfl rfl (app_rep byteT hv ho hb.size (by simpa using hcap)) rfl ?_
      intro d2 w3 ho3 hb3
      refine wk_assign rfl rfl ?_
      refine wk_nil ?_
      exact wk_ret (rb r0) rfl rfl ⟨d2, rfl, ho3, hb.trans hb3⟩
  by_cases k10 : kind = 10
  · subst k10
    refine wk_seq ?_
    refine wk_reg (id := 0) ?_
    refine wk_box rfl rfl ?_
    refine wk_assign rfl rfl ?_
    refine wk_nil ?_
    refine wk_seq ?_
    refine wk_seq ?_
    refine wk_reg (id := 1) ?_
    refine wk_move rfl rfl ?_
    refine wk_nil ?_
    refine wk_block ?_
    refine wk_seq ?_
    refine wk_reg (id := 2) ?_
    refine wk_cmp rfl rfl rfl rfl ?_
    refine wk_assign rfl rfl ?_
    refine wk_nil ?_
    refine wk_condF rfl ?_
    refine wk_seq ?_
    refine wk_reg (id := 4) ?_
    refine wk_cmp rfl rfl rfl rfl ?_
    refine wk_assign rfl rfl ?_
    refine wk_nil ?_
    refine wk_condF rfl ?_
    refine wk_seq ?_
    refine wk_reg (id := 8) ?_
    refine wk_cmp rfl rfl rfl rfl ?_
    refine wk_assign rfl rfl ?_
    refine wk_nil ?_
    refine wk_condF rfl ?_
    refine wk_seq ?_
    refine wk_reg (id := 13) ?_
    refine wk_cmp rfl rfl rfl rfl ?_
    refine wk_assign rfl rfl ?_
    refine wk_nil ?_
    refine wk_condF rfl ?_
    refine wk_seq ?_
    refine wk_reg (id := 18) ?_
    refine wk_cmp rfl rfl rfl rfl ?_
    refine wk_assign rfl rfl ?_
    refine wk_nil ?_
    refine wk_condT rfl ?_
    refine wk_seq ?_
    refine wk_reg (id := 19) ?_
    refine wk_move rfl rfl ?_
    refine wk_move rfl rfl ?_
    refine wk_move rfl rfl ?_
    refine wk_loadA (i := Tryz.t26) rfl Tryz.underlying26 rfl (by kernel_rfl) rfl (by exact cells_new) rfl ?_
    refine wk_call Tryz.call13 (vs := [subv, .int .i64 ver, .bool flex, .agg #[.int .i64 N, v1, .bool nl, v2, v3]]) rfl rfl ((hP _ X subv sub [.int .i64 N, v1, .bool nl, v2, v3] (.mk N S nl L U) ver flex
      (hF.keep (keeps_below hwk (Nat.le_refl _))) (hT0.keep (keeps_below hwk (Nat.le_refl _))) hfs hok (by simpa [sValue] using hlen)).mono ?_)
    rintro e w1 ⟨d', rfl, ho, hb⟩
    refine ⟨d', rfl, ?_⟩
    refine wk_assign rfl rfl ?_
    refine wk_nil ?_
    exact wk_ret (rb r0) rfl rfl ⟨d', rfl, own_mono ho (by simp), hwk.trans (hb.mono (by simp))⟩
  have c0 : cmp .eql kind 0 = some false := by simp [cmp, k0]
  have c7 : cmp .eql kind 7 = some false := by simp [cmp, k7]
  have c8 : cmp .eql kind 8 = some false := by simp [cmp, k8]
  have c9 : cmp .eql kind 9 = some false := by simp [cmp, k9]
  have c10 : cmp .eql kind 10 = some false := by simp [cmp, k10]
  refine wk_seq ?_
  refine wk_reg (id := 0) ?_
  refine wk_box rfl rfl ?_
  refine wk_assign rfl rfl ?_
  refine wk_nil ?_
  refine wk_seq ?_
  refine wk_seq ?_
  refine wk_reg (id := 1) ?_
  refine wk_move rfl rfl ?_
  refine wk_nil ?_
  refine wk_block ?_
  refine wk_seq ?_
  refine wk_reg (id := 2) ?_
  refine wk_cmp rfl rfl (by with_reducible assumption) rfl ?_
  refine wk_assign rfl rfl ?_
  refine wk_nil ?_
  refine wk_condF rfl ?_
  refine wk_seq ?_
  refine wk_reg (id := 4) ?_
  refine wk_cmp rfl rfl (by with_reducible assumption) rfl ?_
  refine wk_assign rfl rfl ?_
  refine wk_nil ?_
  refine wk_condF rfl ?_
  refine wk_seq ?_
  refine wk_reg (id := 8) ?_
  refine wk_cmp rfl rfl (by with_reducible assumption) rfl ?_
  refine wk_assign rfl rfl ?_
  refine wk_nil ?_
  refine wk_condF rfl ?_
  refine wk_seq ?_
  refine wk_reg (id := 13) ?_
  refine wk_cmp rfl rfl (by with_reducible assumption) rfl ?_
  refine wk_assign rfl rfl ?_
  refine wk_nil ?_
  refine wk_condF rfl ?_
  refine wk_seq ?_
  refine wk_reg (id := 18) ?_
  refine wk_cmp rfl rfl (by with_reducible assumption) rfl ?_
  refine wk_assign rfl rfl ?_
  refine wk_nil ?_
  refine wk_condF rfl ?_
  refine wk_skip ?_
  refine wk_blockEnd ?_
  refine wk_seq ?_
  have hc0 : (w.alloc (.cells (Value.agg #[.int .i64 N, v1, .bool nl, v2, v3]).cells 26)).cell? ⟨w.heap.size, 0, none⟩ = some (.int .i64 N) := cell_new rfl
  refine wk_draw (fun w' => w'.cell? ⟨w.heap.size, 0, none⟩ = some (.int .i64 N)) [(0, true), (1, true), (2, true), (3, false), (4, false), (5, true)] mixed pq0 (by kernel_rfl) (by kernel_rfl) (by kernel_rfl) (fun w2 h2 _ => cell_heap h2 hc0) ?_
  intro w2 h2 hb2
  refine wd_field (f := 0) (ti := Tryz.t2) rfl rfl Tryz.underlying26 rfl (by kernel_rfl) (by decide) rfl ?_
  refine wd_load rfl rfl Tryz.underlying2 rfl (fun _ hS => hS) rfl ?_
  refine wd_move rfl rfl rfl ?_
  refine wd_call rfl Tryz.call51 (vs := [.int .i64 kind]) rfl rfl ((width_any _ kind).mono ?_)
  rintro e w3 ⟨rfl, rfl⟩
  have hs2 : w3.cell? ⟨w.heap.size, 0, none⟩ = some (.int .i64 N) := cell_heap h2 hc0
  refine ⟨_, rfl, hs2, ?_⟩
  refine wd_call rfl Tryz.call49 (vs := [.int .i64 N, .int .i64 ((sWidth kind : Nat) : Int)]) rfl rfl ((Fixed_any _ N (sWidth kind) (sWidth_le _)).mono ?_)
  rintro e w4 ⟨d', rfl, ho, hb4⟩
  have hsz : w.heap.size < w3.heap.size := by rw [h2]; simp
  refine ⟨d', rfl, (World.cell?_of_block (hb4.block _ hsz)).trans hs2, ?_⟩
  refine wd_assign rfl rfl rfl ?_
  refine wd_done ?_
  refine wk_ret r0 rfl rfl ⟨d', rfl, ?_, hwk.trans ((hb2.trans (hb4.mono hb2.size)).mono (by simp))⟩
  have hv : sValue (sPart d ver flex) kind sub null flex (.mk N S nl L U) = be (sWidth kind) N := by
    simp only [sValue, k0, k7, k8, k9, k10, if_false, Tree.N]
  rw [hv]
  exact own_mono ho (by omega)
end Go.Proofs.YthejiimocbfagabGreatDoor
