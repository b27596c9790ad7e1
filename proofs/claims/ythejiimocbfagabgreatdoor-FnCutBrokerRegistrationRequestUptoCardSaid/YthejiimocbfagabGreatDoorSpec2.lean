/-
  The reference's functions that write numbers, walked.
-/
import Derived.Test.YthejiimocbfagabGreatDoorSpec1
set_option linter.unusedVariables false
set_option linter.unusedSimpArgs false
namespace Go.Proofs.YthejiimocbfagabGreatDoor
open Go Go.RowKit Go.Proofs.Eng
set_option maxRecDepth 20000

theorem own_nil (w : World) (base tB : Nat) : Own w base tB (.slice none 0 0) [] := World.ownsRow_nil _ _ _ _

theorem Fixed_any (w : World) (n : Int) (s : Nat) (hs : s ≤ 8) : Calls Tryz.prog 49 #[.int .i64 n, .int .i64 (s : Int)] w fun e w' => ∃ d', e = .returned d' ∧ Own w' w.heap.size 5 d' (be s n) ∧ Below w.heap.size w w' := by
  refine calls_wk (args := [.int .i64 n, .int .i64 (s : Int)]) Tryz.func49 rfl rfl ?_
  refine wk_seq ?_
  refine wk_reg (id := 0) ?_
  refine wk_assign rfl rfl ?_
  refine wk_nil ?_
  refine wk_seq ?_
  refine wk_reg (id := 1) ?_
  refine wk_assign rfl rfl ?_
  refine wk_nil ?_
  refine wk_seq ?_
  refine wk_seq ?_
  refine wk_reg (id := 2) ?_
  refine wk_move rfl rfl ?_
  refine wk_sub rfl rfl rfl ?_
  refine wk_assign rfl rfl ?_
  refine wk_nil ?_
  refine wk_loop (fun i : Nat × Value × List UInt8 => [(0, .int .i64 n), (5, i.2.1), (6, .int .i64 ((i.1 : Int) - 1))])
    (fun i w' => Own w' w.heap.size 5 i.2.1 i.2.2 ∧ i.2.2 ++ be i.1 n = be s n ∧ i.1 ≤ s ∧ Below w.heap.size w w') (fun i => i.1) (s, .slice none 0 0, [])
    (congrArg (fun z => [some (Value.int .i64 n), some (Value.slice none 0 0), some (Value.int .i64 z)]) (i64w _ (by omega) (by omega))) ⟨own_nil _ _ _, rfl, Nat.le_refl _, Below.refl _ _⟩ ?_
  · rintro ⟨j, d, p⟩ w1 ⟨ho, hp, hj, hb⟩
    simp only at ho hp hj
    cases j with
    | zero =>
      have c1 : cmp .geq (((0 : Nat) : Int) - 1) 0 = some false := rfl
      refine wk_seq ?_
      refine wk_seq ?_
      refine wk_reg (id := 3) ?_
      refine wk_move rfl rfl ?_
      refine wk_cmp rfl rfl (by with_reducible assumption) rfl ?_
      refine wk_nil ?_
      refine wk_condF rfl ?_
      refine wk_loopExit ?_
      refine wk_seq ?_
      refine wk_reg (id := 6) ?_
      refine wk_move rfl rfl ?_
      refine wk_assign rfl rfl ?_
      refine wk_nil ?_
      exact wk_ret r0 rfl rfl ⟨d, rfl, by rw [← hp]; simpa [be] using ho, hb⟩
    | succ j =>
      have c1 : cmp .geq (((j + 1 : Nat) : Int) - 1) 0 = some true := by simp [cmp] <;> omega
      have e1 : IntKind.i64.wrap (8 * (((j + 1 : Nat) : Int) - 1)) = ((8 * j : Nat) : Int) := (i64w _ (by omega) (by omega)).trans (by omega)
      refine wk_seq ?_
      refine wk_seq ?_
      refine wk_reg (id := 3) ?_
      refine wk_move rfl rfl ?_
      refine wk_cmp rfl rfl (by with_reducible assumption) rfl ?_
      refine wk_nil ?_
      refine wk_condT rfl ?_
      refine wk_skip ?_
      refine wk_seq ?_
      refine wk_block ?_
      refine wk_reg (id := 5) ?_
      refine wk_move rfl rfl ?_
      refine wk_move rfl rfl ?_
      refine wk_move rfl rfl ?_
      refine wk_mul rfl rfl rfl ?_
      refine wk_shr rfl (congrArg (fun z => some (Value.int .i64 z)) e1) (by omega) rfl ?_
      refine wk_conv rfl Tryz.underlying2 Tryz.underlying5 rfl ?_
      refine wk_bs1 byteT rfl rfl ?_
      refine wk_append rfl rfl (app_new byteT ho hb.size (xs := [UInt8.ofNat ((n / (256 : Int) ^ j) % 256).toNat]) (by
          have h1 : (p ++ be (j + 1) n).length = s := by rw [hp, be_length]
          rw [List.length_append, be_length] at h1
          rw [lim_eq]
          simp only [List.length_cons, List.length_nil]
          omega) ?_ rfl rfl) rfl ?_
      · simp only [List.map_cons, List.map_nil]
        refine cons_eq (u8_eq ?_) rfl
        have h2 : min ((8 * j : Nat) : Int).toNat IntKind.i64.bits = 8 * j := by simp [IntKind.bits]; omega
        rw [h2, Int.fdiv_eq_ediv_of_nonneg _ (Int.pow_nonneg (by omega)), Int.pow_mul]
        rfl
      · intro d' w2 ho2 hb2
        refine wk_assign rfl rfl ?_
        refine wk_nil ?_
        refine wk_blockEnd ?_
        refine wk_reg (id := 4) ?_
        refine wk_move rfl rfl ?_
        refine wk_sub rfl rfl rfl ?_
        refine wk_assign rfl rfl ?_
        refine wk_nil ?_
        refine wk_loopNext (j, d', p ++ [UInt8.ofNat ((n / (256 : Int) ^ j) % 256).toNat]) (Nat.lt_succ_self _)
          (congrArg (fun z => [some (Value.int .i64 n), some d', some (Value.int .i64 z)]) ((i64w _ (by omega) (by omega)).trans (by omega))) ⟨ho2, ?_, by simp only; omega, hb.trans (below_new hb.size hb2)⟩
        simp only [List.append_assoc, List.singleton_append]
        exact hp

theorem u64w (n : Nat) (h : n < 18446744073709551616) : IntKind.u64.wrap (n : Int) = n := by
  simp only [IntKind.wrap, IntKind.bits, IntKind.signed]
  simp
  omega
theorem and127_64 (n : Nat) (hn : n < 18446744073709551616) : IntKind.u64.wrap ((BitVec.ofInt 64 (n : Int) &&& BitVec.ofInt 64 127).toNat) = ((n % 128 : Nat) : Int) := by
  have h : (BitVec.ofInt 64 (n : Int) &&& BitVec.ofInt 64 127).toNat = n % 128 := by
    rw [BitVec.toNat_and]
    have h1 : (BitVec.ofInt 64 (n : Int)).toNat = n := by rw [BitVec.ofInt_natCast, BitVec.toNat_ofNat]; exact Nat.mod_eq_of_lt hn
    have h2 : (BitVec.ofInt 64 127).toNat = 2 ^ 7 - 1 := rfl
    rw [h1, h2, Nat.and_two_pow_sub_one_eq_mod]
  rw [h]
  exact u64w _ (by omega)
theorem u8w (n : Nat) (h : n < 256) : IntKind.u8.wrap (n : Int) = n := by
  rw [wrap_u8]; omega
theorem or128_8 (n : Nat) (hn : n < 128) : IntKind.u8.wrap ((BitVec.ofInt 8 (n : Int) ||| BitVec.ofInt 8 128).toNat) = ((n + 128 : Nat) : Int) := by
  have h : (BitVec.ofInt 8 (n : Int) ||| BitVec.ofInt 8 128).toNat = n + 128 := by
    rw [BitVec.toNat_or]
    have h1 : (BitVec.ofInt 8 (n : Int)).toNat = n := by rw [BitVec.ofInt_natCast, BitVec.toNat_ofNat]; exact Nat.mod_eq_of_lt (by omega)
    have h2 : (BitVec.ofInt 8 128).toNat = 2 ^ 7 := rfl
    rw [h1, h2, Nat.or_comm]
    have := Nat.two_pow_add_eq_or_of_lt (i := 7) (b := n) (by omega) 1
    simp only [Nat.mul_one] at this
    omega
  rw [h]
  exact u8w _ (by omega)
theorem grp64 (n : Nat) (hn : n < 18446744073709551616) :
    Value.int .u8 (IntKind.u8.wrap ((BitVec.ofInt 8 (IntKind.u8.wrap (IntKind.u64.wrap ((BitVec.ofInt 64 (n : Int) &&& BitVec.ofInt 64 127).toNat))) ||| BitVec.ofInt 8 128).toNat)) = bv (UInt8.ofNat (n % 128 + 128)) := by
  rw [and127_64 n hn, u8w (n % 128) (by omega), or128_8 (n % 128) (by omega)]
  simp only [bv, UInt8.toNat_ofNat']
  congr 1
  omega

theorem SUvarint_any (w : World) (n : Nat) (hn : n < 4611686018427387904) : Calls Tryz.prog 26 #[.int .u64 (n : Int)] w fun e w' => ∃ d', e = .returned d' ∧ Own w' w.heap.size 5 d' (uv n) ∧ Below w.heap.size w w' := by
  refine calls_wk (args := [.int .u64 (n : Int)]) Tryz.func26 rfl rfl ?_
  refine wk_seq ?_
  refine wk_reg (id := 0) ?_
  refine wk_assign rfl rfl ?_
  refine wk_nil ?_
  refine wk_seq ?_
  refine wk_reg (id := 1) ?_
  refine wk_assign rfl rfl ?_
  refine wk_nil ?_
  refine wk_seq ?_
  refine wk_loop (fun i : Nat × Value × List UInt8 × Nat => [(0, .int .u64 (i.1 : Int)), (3, i.2.1)])
    (fun i w' => Own w' w.heap.size 5 i.2.1 i.2.2.1 ∧ i.2.2.1 ++ uvF i.2.2.2 i.1 = uv n ∧ i.2.2.2 ≤ 9 ∧ i.2.2.1.length + i.2.2.2 ≤ 9 ∧ i.1 < 128 ^ i.2.2.2 * 128 ∧ i.1 < 4611686018427387904 ∧ Below w.heap.size w w') (fun i => i.2.2.2) (n, .slice none 0 0, [], 9)
    rfl ⟨own_nil _ _ _, rfl, Nat.le_refl _, Nat.le_refl _, by simp only; omega, hn, Below.refl _ _⟩ ?_
  rintro ⟨m, d, p, f⟩ w1 ⟨ho, hp, hf, hpl, hm, hm2, hb⟩
  simp only at ho hp hf hm hm2 hpl
  by_cases hlt : m < 128
  · have c1 : cmp .gtr (m : Int) 127 = some false := by simp [cmp]; omega
    refine wk_seq ?_
    refine wk_seq ?_
    refine wk_reg (id := 2) ?_
    refine wk_move rfl rfl ?_
    refine wk_cmp rfl rfl (by with_reducible assumption) rfl ?_
    refine wk_nil ?_
    refine wk_condF rfl ?_
    refine wk_loopExit ?_
    refine wk_seq ?_
    refine wk_reg (id := 5) ?_
    refine wk_move rfl rfl ?_
    refine wk_move rfl rfl ?_
    refine wk_conv rfl Tryz.underlying73 Tryz.underlying5 rfl ?_
    refine wk_bs1 byteT rfl rfl ?_
    have hu : uvF f m = [UInt8.ofNat m] := by
      cases f with
      | zero => rfl
      | succ f => rw [uvF, if_pos hlt]
    refine wk_append rfl rfl (app_new byteT ho hb.size (xs := [UInt8.ofNat m]) (by
        rw [lim_eq]
        simp only [List.length_cons, List.length_nil]
        omega) ?_ rfl rfl) rfl ?_
    · simp only [List.map_cons, List.map_nil]
      exact cons_eq (lastg m hlt) rfl
    · intro d' w2 ho2 hb2
      refine wk_assign rfl rfl ?_
      refine wk_nil ?_
      rw [← hu, hp] at ho2
      exact wk_ret r0 rfl rfl ⟨d', rfl, ho2, hb.trans (below_new hb.size hb2)⟩
  · have c1 : cmp .gtr (m : Int) 127 = some true := by simp [cmp]; omega
    cases f with
    | zero => simp at hm; omega
    | succ f =>
      refine wk_seq ?_
      refine wk_seq ?_
      refine wk_reg (id := 2) ?_
      refine wk_move rfl rfl ?_
      refine wk_cmp rfl rfl (by with_reducible assumption) rfl ?_
      refine wk_nil ?_
      refine wk_condT rfl ?_
      refine wk_skip ?_
      refine wk_block ?_
      refine wk_seq ?_
      refine wk_reg (id := 3) ?_
      refine wk_move rfl rfl ?_
      refine wk_move rfl rfl ?_
      refine wk_and rfl rfl rfl ?_
      refine wk_conv rfl Tryz.underlying73 Tryz.underlying5 rfl ?_
      refine wk_or rfl rfl rfl ?_
      refine wk_bs1 byteT rfl rfl ?_
      refine wk_append rfl rfl (app_new byteT ho hb.size (xs := [UInt8.ofNat (m % 128 + 128)]) (by
          rw [lim_eq]
          simp only [List.length_cons, List.length_nil]
          omega) ?_ rfl rfl) rfl ?_
      · simp only [List.map_cons, List.map_nil]
        exact cons_eq (grp64 m (by omega)) rfl
      · intro d' w2 ho2 hb2
        refine wk_assign rfl rfl ?_
        refine wk_nil ?_
        refine wk_reg (id := 4) ?_
        refine wk_move rfl rfl ?_
        refine wk_shr rfl rfl (by decide) rfl ?_
        refine wk_assign rfl rfl ?_
        refine wk_nil ?_
        refine wk_blockEnd ?_
        refine wk_loopNext (m / 128, d', p ++ [UInt8.ofNat (m % 128 + 128)], f) (Nat.lt_succ_self _) (congrArg (fun z => [some (Value.int .u64 z), some d']) (fdiv_nat m 7)) ⟨ho2, ?_, by simp only; omega, by simp; omega, ?_, by simp only; omega, hb.trans (below_new hb.size hb2)⟩
        · rw [← hp, uvF, if_neg hlt]
          simp only [List.append_assoc, List.singleton_append]
        · rw [Nat.pow_succ] at hm
          simp only
          omega
theorem width_any (w : World) (n : Int) : Calls Tryz.prog 51 #[.int .i64 n] w fun e w' => e = .returned (.int .i64 (sWidth n)) ∧ w' = w := by
  refine calls_wk (args := [.int .i64 n]) Tryz.func51 rfl rfl ?_
  by_cases h1 : n = 1
  · have c1 : cmp .eql n 1 = some true := by simp [cmp, h1]
    refine wk_seq ?_
    refine wk_reg (id := 0) ?_
    refine wk_assign rfl rfl ?_
    refine wk_nil ?_
    refine wk_seq ?_
    refine wk_seq ?_
    refine wk_reg (id := 1) ?_
    refine wk_move rfl rfl ?_
    refine wk_nil ?_
    refine wk_block ?_
    refine wk_seq ?_
    refine wk_reg (id := 2) ?_
    refine wk_cmp rfl rfl (by with_reducible assumption) rfl ?_
    refine wk_assign rfl rfl ?_
    refine wk_nil ?_
    refine wk_condT rfl ?_
    refine wk_seq ?_
    refine wk_reg (id := 3) ?_
    refine wk_assign rfl rfl ?_
    refine wk_nil ?_
    exact wk_ret (rb r0) rfl rfl ⟨by simp [sWidth, h1], rfl⟩
  · have c1 : cmp .eql n 1 = some false := by simp [cmp, h1]
    refine wk_seq ?_
    refine wk_reg (id := 0) ?_
    refine wk_assign rfl rfl ?_
    refine wk_nil ?_
    refine wk_seq ?_
    refine wk_seq ?_
    refine wk_reg (id := 1) ?_
    refine wk_move rfl rfl ?_
    refine wk_nil ?_
    refine wk_block ?_
    refine wk_seq ?_
    refine wk_reg (id := 2) ?_
    refine wk_cmp rfl rfl (by with_reducible assumption) rfl ?_
    refine wk_assign rfl rfl ?_
    refine wk_nil ?_
    refine wk_condF rfl ?_
    by_cases h2 : n = 2
    · have c2 : cmp .eql n 2 = some true := by simp [cmp, h2]
      refine wk_seq ?_
      refine wk_seq ?_
      refine wk_reg (id := 4) ?_
      refine wk_cmp rfl rfl (by with_reducible assumption) rfl ?_
      refine wk_assign rfl rfl ?_
      refine wk_nil ?_
      refine wk_condT rfl ?_
      refine wk_skip ?_
      refine wk_condT rfl ?_
      refine wk_seq ?_
      refine wk_reg (id := 6) ?_
      refine wk_assign rfl rfl ?_
      refine wk_nil ?_
      exact wk_ret (rb r0) rfl rfl ⟨by simp [sWidth, h2], rfl⟩
    · have c2 : cmp .eql n 2 = some false := by simp [cmp, h2]
      refine wk_seq ?_
      refine wk_seq ?_
      refine wk_reg (id := 4) ?_
      refine wk_cmp rfl rfl (by with_reducible assumption) rfl ?_
      refine wk_assign rfl rfl ?_
      refine wk_nil ?_
      refine wk_condF rfl ?_
      by_cases h5 : n = 5
      · have c5 : cmp .eql n 5 = some true := by simp [cmp, h5]
        refine wk_reg (id := 5) ?_
        refine wk_cmp rfl rfl (by with_reducible assumption) rfl ?_
        refine wk_assign rfl rfl ?_
        refine wk_nil ?_
        refine wk_condT rfl ?_
        refine wk_seq ?_
        refine wk_reg (id := 6) ?_
        refine wk_assign rfl rfl ?_
        refine wk_nil ?_
        exact wk_ret (rb r0) rfl rfl ⟨by simp [sWidth, h5], rfl⟩
      · have c5 : cmp .eql n 5 = some false := by simp [cmp, h5]
        refine wk_reg (id := 5) ?_
        refine wk_cmp rfl rfl (by with_reducible assumption) rfl ?_
        refine wk_assign rfl rfl ?_
        refine wk_nil ?_
        refine wk_condF rfl ?_
        by_cases h3 : n = 3
        · have c3 : cmp .eql n 3 = some true := by simp [cmp, h3]
          refine wk_seq ?_
          refine wk_reg (id := 7) ?_
          refine wk_cmp rfl rfl (by with_reducible assumption) rfl ?_
          refine wk_assign rfl rfl ?_
          refine wk_nil ?_
          refine wk_condT rfl ?_
          refine wk_seq ?_
          refine wk_reg (id := 8) ?_
          refine wk_assign rfl rfl ?_
          refine wk_nil ?_
          exact wk_ret (rb r0) rfl rfl ⟨by simp [sWidth, h3], rfl⟩
        · have c3 : cmp .eql n 3 = some false := by simp [cmp, h3]
          refine wk_seq ?_
          refine wk_reg (id := 7) ?_
          refine wk_cmp rfl rfl (by with_reducible assumption) rfl ?_
          refine wk_assign rfl rfl ?_
          refine wk_nil ?_
          refine wk_condF rfl ?_
          refine wk_skip ?_
          refine wk_blockEnd ?_
          refine wk_seq ?_
          refine wk_reg (id := 9) ?_
          refine wk_assign rfl rfl ?_
          refine wk_nil ?_
          exact wk_ret r0 rfl rfl ⟨by simp [sWidth, h1, h2, h3, h5], rfl⟩
end Go.Proofs.YthejiimocbfagabGreatDoor
