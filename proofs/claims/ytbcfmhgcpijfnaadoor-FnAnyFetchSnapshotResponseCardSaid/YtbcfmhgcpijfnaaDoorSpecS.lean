/-
  Two rows are the same; the version that a law takes.
-/
import Derived.Test.YtbcfmhgcpijfnaaDoorEngF
import Derived.Test.YtbcfmhgcpijfnaaDoorEngG
import Derived.Test.YtbcfmhgcpijfnaaDoorEngSpec
import Derived.Test.YtbcfmhgcpijfnaaDoorKbin
set_option linter.unusedVariables false
set_option linter.unusedSimpArgs false
namespace Go.Proofs.YtbcfmhgcpijfnaaDoor
open Go Go.RowKit Go.Proofs.Eng
set_option maxRecDepth 20000

theorem mixed : Tryd.prog.follows .mixedOrders = true := by kernel_rfl
theorem i64w (n : Int) (h : -4611686018427387904 ≤ n) (h' : n ≤ 4611686018427387904) : IntKind.i64.wrap n = n := by
  simp only [IntKind.wrap, IntKind.bits, IntKind.signed]
  simp
  omega
theorem own_mono {w : World} {base base' tB : Nat} {d : Value} {bs : List UInt8} (h : Own w base tB d bs) (hb : base' ≤ base) : Own w base' tB d bs :=
  ⟨h.1, h.2.imp id fun ⟨g, cap, cur, h1, h2, h3⟩ => ⟨g, cap, cur, h1, Nat.le_trans hb h2, h3⟩⟩
theorem bv_inj {a b : UInt8} (h : (a.toNat : Int) = b.toNat) : a = b := UInt8.toNat_inj.1 (by omega)
theorem Same_any (w : World) (X Y : Nat → Prop) (u v : Value) (bs cs : List UInt8) (hu : BytesRep0 w X u bs) (hv : BytesRep0 w Y v cs) (hlb : bs.length ≤ lim) (hlc : cs.length ≤ lim) :
    Calls Tryd.prog 7 #[u, v] w fun e w' => e = .returned (.bool (bs == cs)) ∧ Below w.heap.size w w' := by
  rw [lim_eq] at hlb hlc
  obtain ⟨A, c, rfl, _⟩ := hu.form
  obtain ⟨B, c', rfl, _⟩ := hv.form
  refine calls_wk (args := [.slice A bs.length c, .slice B cs.length c']) Tryd.func7 rfl rfl ?_
  by_cases hl : bs.length = cs.length
  · have c1 : cmp .neq (bs.length : Int) (cs.length : Int) = some false := by simp [cmp, hl]
    refine wk_seq ?_
    refine wk_reg (id := 0) ?_
    refine wk_assign rfl rfl ?_
    refine wk_nil ?_
    refine wk_seq ?_
    refine wk_seq ?_
    refine wk_reg (id := 1) ?_
    refine wk_move rfl rfl ?_
    refine wk_slen rfl Tryd.underlying22 rfl ?_
    refine wk_move rfl rfl ?_
    refine wk_slen rfl Tryd.underlying22 rfl ?_
    refine wk_cmp rfl rfl (by with_reducible assumption) rfl ?_
    refine wk_nil ?_
    refine wk_condF rfl ?_
    refine wk_skip ?_
    refine wk_seq ?_
    refine wk_seq ?_
    refine wk_reg (id := 3) ?_
    refine wk_move rfl rfl ?_
    refine wk_slen rfl Tryd.underlying22 rfl ?_
    refine wk_move rfl rfl ?_
    refine wk_nil ?_
    refine wk_loop (fun i : Nat => [(0, .slice A bs.length c), (1, .slice B cs.length c'), (12, .int .i64 (bs.length : Int)), (13, .int .i64 (i : Int))]) (fun i w' => i ≤ bs.length ∧ bs.take i = cs.take i ∧ Below w.heap.size w w') (fun i => bs.length - i) 0
      rfl ⟨Nat.zero_le _, rfl, Below.refl _ _⟩ ?_
    rintro i w1 ⟨hi, ht, hb⟩
    by_cases hlt : i < bs.length
    · have c2 : cmp .lss (i : Int) (bs.length : Int) = some true := by simp [cmp, hlt]
      have hlt' : i < cs.length := by omega
      obtain ⟨b1, o1, k1, e1, _, hbb1, hc1⟩ := hu.at hlt
      obtain ⟨b2, o2, k2, e2, _, hbb2, hc2⟩ := hv.at hlt'
      simp only [Value.slice.injEq] at e1 e2
      obtain ⟨rfl, _, rfl⟩ := e1
      obtain ⟨rfl, _, rfl⟩ := e2
      have hc1' := (World.cell?_of_block (hb.block b1 hbb1)).trans hc1
      have hc2' := (World.cell?_of_block (hb.block b2 hbb2)).trans hc2
      refine wk_seq ?_
      refine wk_reg (id := 4) ?_
      refine wk_cmp rfl rfl (by with_reducible assumption) rfl ?_
      refine wk_nil ?_
      refine wk_seq ?_
      refine wk_condT rfl ?_
      refine wk_skip ?_
      refine wk_seq ?_
      refine wk_block ?_
      refine wk_seq ?_
      refine wk_reg (id := 5) ?_
      refine wk_move rfl rfl ?_
      refine wk_assign rfl rfl ?_
      refine wk_nil ?_
      refine wk_seq ?_
      refine wk_draw (fun w' => w'.cell? ⟨b1, o1 + i, none⟩ = some (bv bs[i]) ∧ w'.cell? ⟨b2, o2 + i, none⟩ = some (bv cs[i])) [(0, true), (1, true), (2, true), (3, true), (4, true), (5, true), (6, true), (7, true), (8, true)] mixed (pqb (pql pq0)) (by kernel_rfl) (by kernel_rfl) (by kernel_rfl) (fun w2 h2 _ => ⟨cell_heap h2 hc1', cell_heap h2 hc2'⟩) ?_
      intro w2 h2 hb2
      have hbw2 : Below w.heap.size w w2 := hb.trans (hb2.mono hb.size)
      refine wd_move rfl rfl rfl ?_
      refine wd_move rfl rfl rfl ?_
      refine wd_idx (ti := Tryd.t5) rfl rfl rfl Tryd.underlying22 (by kernel_rfl) hlt rfl ?_
      refine wd_load rfl rfl Tryd.underlying5 rfl (v := bv bs[i]) (fun w' hS => by rw [show o1 + i * Tryd.t5.size = o1 + i from by show o1 + i * 1 = _; omega]; exact hS.1) rfl ?_
      refine wd_move rfl rfl rfl ?_
      refine wd_move rfl rfl rfl ?_
      refine wd_idx (ti := Tryd.t5) rfl rfl rfl Tryd.underlying22 (by kernel_rfl) hlt' rfl ?_
      refine wd_load rfl rfl Tryd.underlying5 rfl (v := bv cs[i]) (fun w' hS => by rw [show o2 + i * Tryd.t5.size = o2 + i from by show o2 + i * 1 = _; omega]; exact hS.2) rfl ?_
      by_cases heq : bs[i] = cs[i]
      · have c3 : cmp .neq ((bs[i].toNat : Nat) : Int) ((cs[i].toNat : Nat) : Int) = some false := by simp [cmp, heq]
        refine wd_cmp rfl rfl rfl c3 rfl ?_
        refine wd_done ?_
        refine wk_condF rfl ?_
        refine wk_skip ?_
        refine wk_blockEnd ?_
        refine wk_reg (id := 8) ?_
        refine wk_add rfl rfl rfl ?_
        refine wk_move rfl rfl ?_
        refine wk_nil ?_
        refine wk_loopNext (i + 1) (by omega) (congrArg (fun z => [some (Value.slice (some ⟨b1, o1, none⟩) bs.length c), some (Value.slice (some ⟨b2, o2, none⟩) cs.length c'), some (Value.int .i64 (bs.length : Int)), some (Value.int .i64 z)]) (i64w ((i : Int) + 1) (by omega) (by omega)))
          ⟨by omega, ?_, hbw2⟩
        rw [List.take_add_one, List.take_add_one, ht, List.getElem?_eq_getElem hlt, List.getElem?_eq_getElem hlt', heq]
      · have c3 : cmp .neq ((bs[i].toNat : Nat) : Int) ((cs[i].toNat : Nat) : Int) = some true := by
          have h3 : ¬ ((bs[i].toNat : Nat) : Int) = ((cs[i].toNat : Nat) : Int) := fun e => heq (bv_inj e)
          simp only [cmp]
          rw [bne_iff_ne.2 h3]
        refine wd_cmp rfl rfl rfl c3 rfl ?_
        refine wd_done ?_
        refine wk_condT rfl ?_
        refine wk_seq ?_
        refine wk_reg (id := 7) ?_
        refine wk_assign rfl rfl ?_
        refine wk_nil ?_
        refine wk_ret (rb (rl r0)) rfl rfl ⟨?_, hbw2⟩
        have : (bs == cs) = false := by
          rw [beq_eq_false_iff_ne]
          rintro rfl
          exact heq rfl
        rw [this]
    · have c2 : cmp .lss (i : Int) (bs.length : Int) = some false := by simp [cmp]; omega
      refine wk_seq ?_
      refine wk_reg (id := 4) ?_
      refine wk_cmp rfl rfl (by with_reducible assumption) rfl ?_
      refine wk_nil ?_
      refine wk_seq ?_
      refine wk_condF rfl ?_
      refine wk_loopExit ?_
      refine wk_seq ?_
      refine wk_reg (id := 9) ?_
      refine wk_assign rfl rfl ?_
      refine wk_nil ?_
      refine wk_ret r0 rfl rfl ⟨?_, hb⟩
      rw [List.take_of_length_le (by omega), List.take_of_length_le (by omega)] at ht
      simp [ht]
  · have c1 : cmp .neq (bs.length : Int) (cs.length : Int) = some true := by simp [cmp]; omega
    refine wk_seq ?_
    refine wk_reg (id := 0) ?_
    refine wk_assign rfl rfl ?_
    refine wk_nil ?_
    refine wk_seq ?_
    refine wk_seq ?_
    refine wk_reg (id := 1) ?_
    refine wk_move rfl rfl ?_
    refine wk_slen rfl Tryd.underlying22 rfl ?_
    refine wk_move rfl rfl ?_
    refine wk_slen rfl Tryd.underlying22 rfl ?_
    refine wk_cmp rfl rfl (by with_reducible assumption) rfl ?_
    refine wk_nil ?_
    refine wk_condT rfl ?_
    refine wk_seq ?_
    refine wk_reg (id := 2) ?_
    refine wk_assign rfl rfl ?_
    refine wk_nil ?_
    refine wk_ret r0 rfl rfl ⟨?_, Below.refl _ _⟩
    have : (bs == cs) = false := by
      rw [beq_eq_false_iff_ne]
      rintro rfl
      exact hl rfl
    rw [this]

theorem i16w (x : Int) (h1 : 0 ≤ x) (h2 : x < 32768) : IntKind.i16.wrap x = x := by
  simp [IntKind.wrap, IntKind.bits, IntKind.signed]
  omega
theorem c_version (w : World) (n m : Int) (h0 : 0 ≤ n) (h1 : n ≤ 255) (hm : 0 ≤ m) (hm2 : m ≤ 1000) : Calls Tryd.prog 6 #[.int .u8 n, .int .i64 m] w fun e w' => e = .returned (.int .i64 (n.tmod (m + 1))) ∧ w' = w := by
  have e1 : IntKind.i64.wrap n = n := i64w n (by omega) (by omega)
  have e2 : IntKind.i64.wrap (m + 1) = m + 1 := i64w (m + 1) (by omega) (by omega)
  refine calls_wk (args := [.int .u8 n, .int .i64 m]) Tryd.func6 rfl rfl ?_
  refine wk_seq ?_
  refine wk_reg (id := 0) ?_
  refine wk_assign rfl rfl ?_
  refine wk_nil ?_
  refine wk_seq ?_
  refine wk_reg (id := 1) ?_
  refine wk_move rfl rfl ?_
  refine wk_conv rfl Tryd.underlying5 Tryd.underlying3 rfl ?_
  refine wk_move rfl rfl ?_
  refine wk_add rfl rfl rfl ?_
  refine wk_rem rfl rfl (by rw [e2]; omega) rfl ?_
  refine wk_assign rfl rfl ?_
  refine wk_nil ?_
  exact wk_ret r0 rfl rfl ⟨by rw [e1, e2], rfl⟩
theorem ver_of (n : Int) (m : Nat) (h0 : 0 ≤ n) : ∃ ver : Nat, n.tmod ((m : Int) + 1) = (ver : Int) ∧ ver ≤ m := by
  rw [Int.tmod_eq_emod_of_nonneg h0]
  have h1 := Int.emod_nonneg n (show (m : Int) + 1 ≠ 0 by omega)
  have h2 := Int.emod_lt_of_pos n (show (0 : Int) < (m : Int) + 1 by omega)
  exact ⟨(n % ((m : Int) + 1)).toNat, by omega, by omega⟩
end Go.Proofs.YtbcfmhgcpijfnaaDoor
