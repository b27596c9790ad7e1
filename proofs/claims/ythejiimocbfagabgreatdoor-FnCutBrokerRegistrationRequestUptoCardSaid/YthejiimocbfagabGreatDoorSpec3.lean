/-
  The reference: counts; whether two rows are the same; the greatest tag that is known.
-/
import Derived.Test.YthejiimocbfagabGreatDoorSpec2
import Derived.Test.YthejiimocbfagabGreatDoorSpecS
set_option linter.unusedVariables false
set_option linter.unusedSimpArgs false
namespace Go.Proofs.YthejiimocbfagabGreatDoor
open Go Go.RowKit Go.Proofs.Eng
set_option maxRecDepth 20000

theorem counted_any (w : World) (flex null : Bool) (n s : Nat) (hn : n < 2305843009213693952) (hs : s ≤ 8) : Calls Tryz.prog 47 #[.bool flex, .bool null, .int .i64 (n : Int), .int .i64 (s : Int)] w
    fun e w' => ∃ d', e = .returned d' ∧ Own w' w.heap.size 5 d' (sCounted flex null n s) ∧ Below w.heap.size w w' := by
  refine calls_wk (args := [.bool flex, .bool null, .int .i64 (n : Int), .int .i64 (s : Int)]) Tryz.func47 rfl rfl ?_
  cases flex with
  | true =>
    cases null with
    | true =>
      refine wk_seq ?_
      refine wk_reg (id := 0) ?_
      refine wk_assign rfl rfl ?_
      refine wk_nil ?_
      refine wk_seq ?_
      refine wk_block ?_
      refine wk_seq ?_
      refine wk_reg (id := 1) ?_
      refine wk_move rfl rfl ?_
      refine wk_move rfl rfl ?_
      refine wk_gT rfl ?_; refine wk_move rfl rfl ?_
      refine wk_pick rfl rfl rfl rfl ?_
      refine wk_assign rfl rfl ?_
      refine wk_nil ?_
      refine wk_condT rfl ?_
      refine wk_seq ?_
      refine wk_reg (id := 2) ?_
      refine wk_bs1 byteT rfl rfl ?_
      refine wk_assign rfl rfl ?_
      refine wk_nil ?_
      exact wk_ret (rb r0) rfl rfl ⟨_, rfl, own_new (bs := [0]) rfl rfl (by decide), below1 _ _⟩
    | false =>
      refine wk_seq ?_
      refine wk_reg (id := 0) ?_
      refine wk_assign rfl rfl ?_
      refine wk_nil ?_
      refine wk_seq ?_
      refine wk_block ?_
      refine wk_seq ?_
      refine wk_reg (id := 1) ?_
      refine wk_move rfl rfl ?_
      refine wk_move rfl rfl ?_
      refine wk_gT rfl ?_; refine wk_move rfl rfl ?_
      refine wk_pick rfl rfl rfl rfl ?_
      refine wk_assign rfl rfl ?_
      refine wk_nil ?_
      refine wk_condF rfl ?_
      refine wk_seq ?_
      refine wk_reg (id := 3) ?_
      refine wk_move rfl rfl ?_
      refine wk_assign rfl rfl ?_
      refine wk_nil ?_
      refine wk_condT rfl ?_
      refine wk_seq ?_
      refine wk_reg (id := 4) ?_
      refine wk_move rfl rfl ?_
      refine wk_conv rfl Tryz.underlying3 Tryz.underlying73 rfl ?_
      refine wk_add rfl rfl rfl ?_
      have e1 : IntKind.u64.wrap (IntKind.u64.wrap (n : Int) + 1) = ((n + 1 : Nat) : Int) := by rw [u64w _ (by omega)]; exact u64w (n + 1) (by omega)
      refine wk_call Tryz.call26 (vs := [.int .u64 ((n + 1 : Nat) : Int)]) (congrArg (fun z => [some (Value.int .u64 z)]) e1) rfl ((SUvarint_any w (n + 1) (by omega)).mono ?_)
      rintro e w' ⟨d', rfl, ho, hb⟩
      refine ⟨d', rfl, ?_⟩
      refine wk_assign rfl rfl ?_
      refine wk_nil ?_
      exact wk_ret (rb r0) rfl rfl ⟨d', rfl, ho, hb⟩
  | false =>
    cases null with
    | true =>
      refine wk_seq ?_
      refine wk_reg (id := 0) ?_
      refine wk_assign rfl rfl ?_
      refine wk_nil ?_
      refine wk_seq ?_
      refine wk_block ?_
      refine wk_seq ?_
      refine wk_reg (id := 1) ?_
      refine wk_move rfl rfl ?_
      refine wk_move rfl rfl ?_
      refine wk_gF rfl rfl ?_
      refine wk_pick rfl rfl rfl rfl ?_
      refine wk_assign rfl rfl ?_
      refine wk_nil ?_
      refine wk_condF rfl ?_
      refine wk_seq ?_
      refine wk_reg (id := 3) ?_
      refine wk_move rfl rfl ?_
      refine wk_assign rfl rfl ?_
      refine wk_nil ?_
      refine wk_condF rfl ?_
      refine wk_seq ?_
      refine wk_reg (id := 5) ?_
      refine wk_move rfl rfl ?_
      refine wk_assign rfl rfl ?_
      refine wk_nil ?_
      refine wk_condT rfl ?_
      refine wk_seq ?_
      refine wk_reg (id := 6) ?_
      refine wk_move rfl rfl ?_
      refine wk_call Tryz.call49 (vs := [.int .i64 (-1), .int .i64 (s : Int)]) rfl rfl ((Fixed_any w (-1) s hs).mono ?_)
      rintro e w' ⟨d', rfl, ho, hb⟩
      refine ⟨d', rfl, ?_⟩
      refine wk_assign rfl rfl ?_
      refine wk_nil ?_
      exact wk_ret (rb r0) rfl rfl ⟨d', rfl, ho, hb⟩
    | false =>
      refine wk_seq ?_
      refine wk_reg (id := 0) ?_
      refine wk_assign rfl rfl ?_
      refine wk_nil ?_
      refine wk_seq ?_
      refine wk_block ?_
      refine wk_seq ?_
      refine wk_reg (id := 1) ?_
      refine wk_move rfl rfl ?_
      refine wk_move rfl rfl ?_
      refine wk_gF rfl rfl ?_
      refine wk_pick rfl rfl rfl rfl ?_
      refine wk_assign rfl rfl ?_
      refine wk_nil ?_
      refine wk_condF rfl ?_
      refine wk_seq ?_
      refine wk_reg (id := 3) ?_
      refine wk_move rfl rfl ?_
      refine wk_assign rfl rfl ?_
      refine wk_nil ?_
      refine wk_condF rfl ?_
      refine wk_seq ?_
      refine wk_reg (id := 5) ?_
      refine wk_move rfl rfl ?_
      refine wk_assign rfl rfl ?_
      refine wk_nil ?_
      refine wk_condF rfl ?_
      refine wk_skip ?_
      refine wk_blockEnd ?_
      refine wk_seq ?_
      refine wk_reg (id := 7) ?_
      refine wk_move rfl rfl ?_
      refine wk_move rfl rfl ?_
      refine wk_call Tryz.call49 (vs := [.int .i64 (n : Int), .int .i64 (s : Int)]) rfl rfl ((Fixed_any w n s hs).mono ?_)
      rintro e w' ⟨d', rfl, ho, hb⟩
      refine ⟨d', rfl, ?_⟩
      refine wk_assign rfl rfl ?_
      refine wk_nil ?_
      exact wk_ret r0 rfl rfl ⟨d', rfl, ho, hb⟩

theorem u32w (n : Nat) (h : n < 4294967296) : IntKind.u32.wrap (n : Int) = n := u32_nat n h
theorem known_any (w : World) (X : Nat → Prop) (v : Value) (fs : List Fld) (hv : FRep w X v fs) (hok : TagsOk fs) (hlen : fs.length < 4294967296) :
    Calls Tryz.prog 24 #[v] w fun e w' => e = .returned (.int .u32 (sKnown fs)) ∧ Below w.heap.size w w' := by
  obtain ⟨A, c, rfl⟩ := hv.form
  refine calls_wk (args := [.slice A fs.length c]) Tryz.func24 rfl rfl ?_
  refine wk_seq ?_
  refine wk_reg (id := 0) ?_
  refine wk_assign rfl rfl ?_
  refine wk_nil ?_
  refine wk_seq ?_
  refine wk_reg (id := 1) ?_
  refine wk_assign rfl rfl ?_
  refine wk_nil ?_
  refine wk_seq ?_
  refine wk_seq ?_
  refine wk_reg (id := 2) ?_
  refine wk_move rfl rfl ?_
  refine wk_slen rfl Tryz.underlying31 rfl ?_
  refine wk_move rfl rfl ?_
  refine wk_nil ?_
  refine wk_loop (fun i : Nat × Nat => [(3, .int .u32 (i.2 : Int)), (6, .slice A fs.length c), (7, .int .i64 (fs.length : Int)), (8, .int .i64 (i.1 : Int))]) (fun i w' => i.1 ≤ fs.length ∧ max i.2 (sKnown (fs.drop i.1)) = sKnown fs ∧ i.2 ≤ 2147483648 ∧ Below w.heap.size w w') (fun i => fs.length - i.1) (0, 0)
      rfl ⟨Nat.zero_le _, by simp, by simp, Below.refl _ _⟩ ?_
  rintro ⟨i, m⟩ w1 ⟨hi, hm, hm2, hb⟩
  simp only at hi hm hm2
  by_cases hlt : i < fs.length
  · have c2 : cmp .lss (i : Int) (fs.length : Int) = some true := by simp [cmp, hlt]
    obtain ⟨b, c2, sv, e1, hbb, hsub, hcell⟩ := hv.at hlt
    simp only [Value.slice.injEq] at e1
    obtain ⟨rfl, _, rfl⟩ := e1
    have hcell1 : ∀ j u, (fldV fs[i] sv)[j]? = some u → w1.cell? ((⟨b, 0 + i * 8, none⟩ : Addr).add j) = some u := fun j u hj => (World.cell?_of_block (by rw [add_addr]; exact hb.block b hbb)).trans (hcell j u hj)
    have hdrop : fs.drop i = fs[i] :: fs.drop (i + 1) := List.drop_eq_getElem_cons hlt
    have hnx : IntKind.i64.wrap ((i : Int) + 1) = ((i + 1 : Nat) : Int) := i64w ((i : Int) + 1) (by omega) (by omega)
    rw [hdrop] at hm
    refine wk_seq ?_
    refine wk_reg (id := 3) ?_
    refine wk_cmp rfl rfl (by with_reducible assumption) rfl ?_
    refine wk_nil ?_
    refine wk_seq ?_
    refine wk_condT rfl ?_
    refine wk_skip ?_
    refine wk_seq ?_
    refine wk_block ?_
    refine wk_seq ?_
    refine wk_reg (id := 4) ?_
    refine wk_idx (i := Tryz.t46) rfl rfl Tryz.underlying31 (by kernel_rfl) hlt rfl ?_
    refine wk_loadA (i := Tryz.t46) rfl Tryz.underlying46 rfl (by kernel_rfl) (vs := fldV fs[i] sv) rfl hcell1 rfl ?_
    refine wk_alloc (t := 46) (i := Tryz.t46) (by kernel_rfl) rfl rfl ?_
    refine wk_storeNew (i := Tryz.t46) rfl rfl (by kernel_rfl) rfl rfl (fldV_one hsub.one) ?_
    by_cases ht : 0 ≤ fs[i].tag
    · have c3 : cmp .geq fs[i].tag 0 = some true := by simp [cmp, ht]
      have htl := hok.at (List.getElem?_eq_getElem hlt)
      have e2 : IntKind.u32.wrap (IntKind.u32.wrap fs[i].tag + 1) = ((fs[i].tag.toNat + 1 : Nat) : Int) := by
        have : fs[i].tag = (fs[i].tag.toNat : Int) := by omega
        rw [this, u32_nat _ (by omega)]
        exact u32_nat (fs[i].tag.toNat + 1) (by omega)
      refine wk_nil ?_
      refine wk_seq ?_
      refine wk_reg (id := 5) ?_
      refine wk_field (f := 4) (i := Tryz.t3) rfl Tryz.underlying46 rfl (by kernel_rfl) (by decide) rfl ?_
      refine wk_load rfl Tryz.underlying3 rfl (by exact cell_new rfl) rfl ?_
      refine wk_cmp rfl rfl (by with_reducible assumption) rfl ?_
      refine wk_nil ?_
      refine wk_condT rfl ?_
      refine wk_reg (id := 6) ?_
      refine wk_move rfl rfl ?_
      refine wk_field (f := 4) (i := Tryz.t3) rfl Tryz.underlying46 rfl (by kernel_rfl) (by decide) rfl ?_
      refine wk_load rfl Tryz.underlying3 rfl (by exact cell_new rfl) rfl ?_
      refine wk_conv rfl Tryz.underlying3 Tryz.underlying53 rfl ?_
      refine wk_add rfl rfl rfl ?_
      refine wk_max rfl rfl rfl ?_
      refine wk_assign rfl rfl ?_
      refine wk_nil ?_
      refine wk_blockEnd ?_
      refine wk_reg (id := 7) ?_
      refine wk_add rfl rfl rfl ?_
      refine wk_move rfl rfl ?_
      refine wk_nil ?_
      have e3 : (if IntKind.u32.wrap (IntKind.u32.wrap fs[i].tag + 1) > (m : Int) then IntKind.u32.wrap (IntKind.u32.wrap fs[i].tag + 1) else (m : Int)) = ((max m (fs[i].tag.toNat + 1) : Nat) : Int) := by
        rw [e2]; split <;> omega
      refine wk_loopNext (i + 1, max m (fs[i].tag.toNat + 1)) (by simp only; omega)
        (show [some (Value.int .u32 _), _, _, some (Value.int .i64 _)] = _ from by rw [hnx]; exact congrArg (fun z => [some (Value.int .u32 z), _, _, some (Value.int .i64 ((i + 1 : Nat) : Int))]) e3) ⟨by simp only; omega, ?_, by simp only; omega, hb.trans ((below1 _ _).mono hb.size)⟩
      simp only [sKnown, if_pos ht] at hm
      simp only
      omega
    · have c3 : cmp .geq fs[i].tag 0 = some false := by simp [cmp]; omega
      refine wk_nil ?_
      refine wk_seq ?_
      refine wk_reg (id := 5) ?_
      refine wk_field (f := 4) (i := Tryz.t3) rfl Tryz.underlying46 rfl (by kernel_rfl) (by decide) rfl ?_
      refine wk_load rfl Tryz.underlying3 rfl (by exact cell_new rfl) rfl ?_
      refine wk_cmp rfl rfl (by with_reducible assumption) rfl ?_
      refine wk_nil ?_
      refine wk_condF rfl ?_
      refine wk_skip ?_
      refine wk_blockEnd ?_
      refine wk_reg (id := 7) ?_
      refine wk_add rfl rfl rfl ?_
      refine wk_move rfl rfl ?_
      refine wk_nil ?_
      refine wk_loopNext (i + 1, m) (by simp only; omega) (congrArg (fun z => [some (Value.int .u32 (m : Int)), some (Value.slice (some ⟨b, 0, none⟩) fs.length c), some (Value.int .i64 (fs.length : Int)), some (Value.int .i64 z)]) hnx)
        ⟨by simp only; omega, by simpa [sKnown, if_neg ht] using hm, hm2, hb.trans ((below1 _ _).mono hb.size)⟩
  · have c2 : cmp .lss (i : Int) (fs.length : Int) = some false := by simp [cmp]; omega
    refine wk_seq ?_
    refine wk_reg (id := 3) ?_
    refine wk_cmp rfl rfl (by with_reducible assumption) rfl ?_
    refine wk_nil ?_
    refine wk_seq ?_
    refine wk_condF rfl ?_
    refine wk_loopExit ?_
    refine wk_seq ?_
    refine wk_reg (id := 8) ?_
    refine wk_move rfl rfl ?_
    refine wk_assign rfl rfl ?_
    refine wk_nil ?_
    refine wk_ret r0 rfl rfl ⟨?_, hb⟩
    rw [List.drop_of_length_le (by omega)] at hm
    simp [sKnown] at hm
    rw [hm]
end Go.Proofs.YthejiimocbfagabGreatDoor
