/-
  Numbers out of bytes: the highest byte first; groups of seven bits.
-/
import Derived.Test.YtbcfmhgcpijfnaaDoorEngI
import Derived.Test.YtbcfmhgcpijfnaaDoorKbin
set_option linter.unusedVariables false
set_option linter.unusedSimpArgs false
namespace Go.Proofs.YtbcfmhgcpijfnaaDoor
open Go Go.RowKit Go.Proofs.Eng
set_option maxRecDepth 20000
set_option maxHeartbeats 4000000

theorem mixedR : Tryd.prog.follows .mixedOrders = true := by kernel_rfl
theorem be1n (a : UInt8) : beNat [a] = a.toNat := by simp [beNat]
theorem be2n (a b : UInt8) : beNat [a, b] = b.toNat + a.toNat * 2 ^ 8 := by simp [beNat]; omega
theorem be4n (a b c d : UInt8) : beNat [a, b, c, d] = d.toNat + c.toNat * 2 ^ 8 + b.toNat * 2 ^ 16 + a.toNat * 2 ^ 24 := by simp [beNat]; omega
theorem be8n (a b c d e f g h : UInt8) : beNat [a, b, c, d, e, f, g, h] = h.toNat + g.toNat * 2 ^ 8 + f.toNat * 2 ^ 16 + e.toNat * 2 ^ 24 + d.toNat * 2 ^ 32 + c.toNat * 2 ^ 40 + b.toNat * 2 ^ 48 + a.toNat * 2 ^ 56 := by simp [beNat]; omega
theorem u16n (n : Nat) (h : n < 65536) : IntKind.u16.wrap (n : Int) = n := by
  simp [IntKind.wrap, IntKind.bits, IntKind.signed]
  omega
theorem u64n (n : Nat) (h : n < 18446744073709551616) : IntKind.u64.wrap (n : Int) = n := by
  simp [IntKind.wrap, IntKind.bits, IntKind.signed]
  omega
theorem kshl {k : IntKind} (hk : ∀ n : Nat, n < 2 ^ k.bits → k.wrap (n : Int) = n) (b s : Nat) (h : b * 2 ^ s < 2 ^ k.bits) : k.wrap ((b : Int) * 2 ^ s) = ((b * 2 ^ s : Nat) : Int) := by
  have : ((b : Int) * 2 ^ s) = ((b * 2 ^ s : Nat) : Int) := by simp
  rw [this]
  exact hk _ h
theorem kor {k : IntKind} (hk : ∀ n : Nat, n < 2 ^ k.bits → k.wrap (n : Int) = n) (a b s : Nat) (ha : a < 2 ^ s) (h : a + b * 2 ^ s < 2 ^ k.bits) : k.wrap ((BitVec.ofInt k.bits (a : Int) ||| BitVec.ofInt k.bits ((b * 2 ^ s : Nat) : Int)).toNat) = ((a + b * 2 ^ s : Nat) : Int) := by
  have e : (BitVec.ofInt k.bits (a : Int) ||| BitVec.ofInt k.bits ((b * 2 ^ s : Nat) : Int)).toNat = a + b * 2 ^ s := by
    rw [BitVec.toNat_or]
    have key : ∀ n : Nat, n < 2 ^ k.bits → (BitVec.ofInt k.bits (n : Int)).toNat = n := by
      intro n hn
      rw [BitVec.ofInt_natCast, BitVec.toNat_ofNat, Nat.mod_eq_of_lt hn]
    rw [key a (Nat.lt_of_le_of_lt (Nat.le_add_right _ _) h), key _ (Nat.lt_of_le_of_lt (Nat.le_add_left _ _) h), Nat.or_comm, Nat.mul_comm, ← Nat.two_pow_add_eq_or_of_lt ha, Nat.add_comm]
  rw [e]
  exact hk _ h
theorem kw16 : ∀ n : Nat, n < 2 ^ IntKind.u16.bits → IntKind.u16.wrap (n : Int) = n := fun n h => u16n n h
theorem kw32 : ∀ n : Nat, n < 2 ^ IntKind.u32.bits → IntKind.u32.wrap (n : Int) = n := fun n h => u32n n h
theorem kw64 : ∀ n : Nat, n < 2 ^ IntKind.u64.bits → IntKind.u64.wrap (n : Int) = n := fun n h => u64n n h
theorem cells_at {w : World} {b o : Nat} {l : List UInt8} (h : ∀ (i : Nat) (x : UInt8), l[i]? = some x → w.cell? ⟨b, o + i, none⟩ = some (bv x)) (i : Nat) (x : UInt8) (hi : l[i]? = some x) : w.cell? ⟨b, o + i, none⟩ = some (.int .u8 (x.toNat : Int)) := h i x hi

theorem c_BE16 (w : World) (X : Nat → Prop) (v : Value) (l : List UInt8) (hv : BytesRep w X v l) (hl : 2 ≤ l.length) :
    Calls Tryd.prog 60 #[.agg #[], v] w fun e w' => e = .returned (.int .u16 (beNat (l.take 2) : Nat)) ∧ Below w.heap.size w w' := by
  obtain ⟨b, o, n, c, rfl, hx, hb, hln, hc, hcell⟩ := hv
  subst hln
  match l, hl, hcell with
  | a0 :: a1 :: r, _, hcell =>
    have ha0 := a0.toNat_lt
    have ha1 := a1.toNat_lt
    have hlen : 2 ≤ (a0 :: a1 :: r).length := by simp
    refine calls_wk (args := [.agg #[], .slice (some ⟨b, o, none⟩) (a0 :: a1 :: r).length c]) Tryd.func60 rfl rfl ?_
    have d0 := cells_at (fun i x hi => (World.cell?_of_block ((below1 w (.cells (Value.agg #[]).cells 97)).block b hb)).trans (hcell i x hi)) 0 a0 rfl
    have d1 := cells_at (fun i x hi => (World.cell?_of_block ((below1 w (.cells (Value.agg #[]).cells 97)).block b hb)).trans (hcell i x hi)) 1 a1 rfl
    refine wk_seq ?_
    refine wk_reg (id := 0) ?_
    refine wk_box rfl rfl ?_
    refine wk_assign rfl rfl ?_
    refine wk_nil ?_
    refine wk_seq ?_
    refine wk_reg (id := 1) ?_
    refine wk_move rfl rfl ?_
    refine wk_idxB 1 byteT rfl rfl (by omega) rfl ?_
    refine wk_load rfl Tryd.underlying5 rfl (by with_reducible assumption) rfl ?_
    refine wk_nil ?_
    refine wk_seq ?_
    refine wk_draw (fun w' => w'.heap = (w.alloc (.cells (Value.agg #[]).cells 97)).heap) [(0, true), (1, true), (2, true), (3, true), (4, true), (5, true), (6, true), (7, true), (8, true), (9, true), (10, true)] mixedR pq0 (by kernel_rfl) (by kernel_rfl) (by kernel_rfl) (fun w5 h5 _ => h5) ?_
    intro w3 h3 hb3
    have v0 : IntKind.u16.wrap (a0.toNat : Int) = (a0.toNat : Nat) := u16n _ (by omega)
    have v1 : IntKind.u16.wrap (a1.toNat : Int) = (a1.toNat : Nat) := u16n _ (by omega)
    have s0 : IntKind.u16.wrap ((a0.toNat : Int) * 2 ^ 8) = ((a0.toNat * 2 ^ 8 : Nat) : Int) := kshl kw16 _ _ (by simp only [IntKind.bits]; omega)
    have q0 := kor kw16 (a1.toNat) a0.toNat 8 (by omega) (by simp only [IntKind.bits]; omega)
    refine wd_move rfl rfl rfl ?_
    refine wd_idxB 1 byteT rfl rfl rfl (by first | with_reducible assumption | omega) rfl ?_
    refine wd_load rfl rfl Tryd.underlying5 rfl (fun w_ hS_ => cell_heap hS_ (by with_reducible assumption)) rfl ?_
    refine wd_convV rfl rfl Tryd.underlying5 Tryd.underlying70 (by with_reducible assumption) rfl ?_
    refine wd_move rfl rfl rfl ?_
    refine wd_idxB 0 byteT rfl rfl rfl (by first | with_reducible assumption | omega) rfl ?_
    refine wd_load rfl rfl Tryd.underlying5 rfl (fun w_ hS_ => cell_heap hS_ (by with_reducible assumption)) rfl ?_
    refine wd_convV rfl rfl Tryd.underlying5 Tryd.underlying70 (by with_reducible assumption) rfl ?_
    refine wd_shl 8 rfl rfl rfl rfl (by with_reducible assumption) rfl ?_
    refine wd_orV rfl rfl rfl (by with_reducible assumption) rfl ?_
    refine wd_assign rfl rfl rfl ?_
    refine wd_done ?_
    skip
    exact wk_ret r0 rfl rfl ⟨by rw [show (a0 :: a1 :: r).take 2 = [a0, a1] from rfl, be2n], (below1 _ _).trans (hb3.mono (below1 _ _).size)⟩
theorem c_BE32 (w : World) (X : Nat → Prop) (v : Value) (l : List UInt8) (hv : BytesRep w X v l) (hl : 4 ≤ l.length) :
    Calls Tryd.prog 59 #[.agg #[], v] w fun e w' => e = .returned (.int .u32 (beNat (l.take 4) : Nat)) ∧ Below w.heap.size w w' := by
  obtain ⟨b, o, n, c, rfl, hx, hb, hln, hc, hcell⟩ := hv
  subst hln
  match l, hl, hcell with
  | a0 :: a1 :: a2 :: a3 :: r, _, hcell =>
    have ha0 := a0.toNat_lt
    have ha1 := a1.toNat_lt
    have ha2 := a2.toNat_lt
    have ha3 := a3.toNat_lt
    have hlen : 4 ≤ (a0 :: a1 :: a2 :: a3 :: r).length := by simp
    refine calls_wk (args := [.agg #[], .slice (some ⟨b, o, none⟩) (a0 :: a1 :: a2 :: a3 :: r).length c]) Tryd.func59 rfl rfl ?_
    have d0 := cells_at (fun i x hi => (World.cell?_of_block ((below1 w (.cells (Value.agg #[]).cells 97)).block b hb)).trans (hcell i x hi)) 0 a0 rfl
    have d1 := cells_at (fun i x hi => (World.cell?_of_block ((below1 w (.cells (Value.agg #[]).cells 97)).block b hb)).trans (hcell i x hi)) 1 a1 rfl
    have d2 := cells_at (fun i x hi => (World.cell?_of_block ((below1 w (.cells (Value.agg #[]).cells 97)).block b hb)).trans (hcell i x hi)) 2 a2 rfl
    have d3 := cells_at (fun i x hi => (World.cell?_of_block ((below1 w (.cells (Value.agg #[]).cells 97)).block b hb)).trans (hcell i x hi)) 3 a3 rfl
    refine wk_seq ?_
    refine wk_reg (id := 0) ?_
    refine wk_box rfl rfl ?_
    refine wk_assign rfl rfl ?_
    refine wk_nil ?_
    refine wk_seq ?_
    refine wk_reg (id := 1) ?_
    refine wk_move rfl rfl ?_
    refine wk_idxB 3 byteT rfl rfl (by omega) rfl ?_
    refine wk_load rfl Tryd.underlying5 rfl (by with_reducible assumption) rfl ?_
    refine wk_nil ?_
    refine wk_seq ?_
    refine wk_draw (fun w' => w'.heap = (w.alloc (.cells (Value.agg #[]).cells 97)).heap) [(0, true), (1, true), (2, true), (3, true), (4, true), (5, true), (6, true), (7, true), (8, true), (9, true), (10, true), (11, true), (12, true), (13, true), (14, true), (15, true), (16, true), (17, true), (18, true), (19, true), (20, true), (21, true), (22, true)] mixedR pq0 (by kernel_rfl) (by kernel_rfl) (by kernel_rfl) (fun w5 h5 _ => h5) ?_
    intro w3 h3 hb3
    have v0 : IntKind.u32.wrap (a0.toNat : Int) = (a0.toNat : Nat) := u32n _ (by omega)
    have v1 : IntKind.u32.wrap (a1.toNat : Int) = (a1.toNat : Nat) := u32n _ (by omega)
    have v2 : IntKind.u32.wrap (a2.toNat : Int) = (a2.toNat : Nat) := u32n _ (by omega)
    have v3 : IntKind.u32.wrap (a3.toNat : Int) = (a3.toNat : Nat) := u32n _ (by omega)
    have s0 : IntKind.u32.wrap ((a0.toNat : Int) * 2 ^ 24) = ((a0.toNat * 2 ^ 24 : Nat) : Int) := kshl kw32 _ _ (by simp only [IntKind.bits]; omega)
    have s1 : IntKind.u32.wrap ((a1.toNat : Int) * 2 ^ 16) = ((a1.toNat * 2 ^ 16 : Nat) : Int) := kshl kw32 _ _ (by simp only [IntKind.bits]; omega)
    have s2 : IntKind.u32.wrap ((a2.toNat : Int) * 2 ^ 8) = ((a2.toNat * 2 ^ 8 : Nat) : Int) := kshl kw32 _ _ (by simp only [IntKind.bits]; omega)
    have q2 := kor kw32 (a3.toNat) a2.toNat 8 (by omega) (by simp only [IntKind.bits]; omega)
    have q1 := kor kw32 (a3.toNat + a2.toNat * 2 ^ 8) a1.toNat 16 (by omega) (by simp only [IntKind.bits]; omega)
    have q0 := kor kw32 (a3.toNat + a2.toNat * 2 ^ 8 + a1.toNat * 2 ^ 16) a0.toNat 24 (by omega) (by simp only [IntKind.bits]; omega)
    refine wd_move rfl rfl rfl ?_
    refine wd_idxB 3 byteT rfl rfl rfl (by first | with_reducible assumption | omega) rfl ?_
    refine wd_load rfl rfl Tryd.underlying5 rfl (fun w_ hS_ => cell_heap hS_ (by with_reducible assumption)) rfl ?_
    refine wd_convV rfl rfl Tryd.underlying5 Tryd.underlying64 (by with_reducible assumption) rfl ?_
    refine wd_move rfl rfl rfl ?_
    refine wd_idxB 2 byteT rfl rfl rfl (by first | with_reducible assumption | omega) rfl ?_
    refine wd_load rfl rfl Tryd.underlying5 rfl (fun w_ hS_ => cell_heap hS_ (by with_reducible assumption)) rfl ?_
    refine wd_convV rfl rfl Tryd.underlying5 Tryd.underlying64 (by with_reducible assumption) rfl ?_
    refine wd_shl 8 rfl rfl rfl rfl (by with_reducible assumption) rfl ?_
    refine wd_orV rfl rfl rfl (by with_reducible assumption) rfl ?_
    refine wd_move rfl rfl rfl ?_
    refine wd_idxB 1 byteT rfl rfl rfl (by first | with_reducible assumption | omega) rfl ?_
    refine wd_load rfl rfl Tryd.underlying5 rfl (fun w_ hS_ => cell_heap hS_ (by with_reducible assumption)) rfl ?_
    refine wd_convV rfl rfl Tryd.underlying5 Tryd.underlying64 (by with_reducible assumption) rfl ?_
    refine wd_shl 16 rfl rfl rfl rfl (by with_reducible assumption) rfl ?_
    refine wd_orV rfl rfl rfl (by with_reducible assumption) rfl ?_
    refine wd_move rfl rfl rfl ?_
    refine wd_idxB 0 byteT rfl rfl rfl (by first | with_reducible assumption | omega) rfl ?_
    refine wd_load rfl rfl Tryd.underlying5 rfl (fun w_ hS_ => cell_heap hS_ (by with_reducible assumption)) rfl ?_
    refine wd_convV rfl rfl Tryd.underlying5 Tryd.underlying64 (by with_reducible assumption) rfl ?_
    refine wd_shl 24 rfl rfl rfl rfl (by with_reducible assumption) rfl ?_
    refine wd_orV rfl rfl rfl (by with_reducible assumption) rfl ?_
    refine wd_assign rfl rfl rfl ?_
    refine wd_done ?_
    skip
    exact wk_ret r0 rfl rfl ⟨by rw [show (a0 :: a1 :: a2 :: a3 :: r).take 4 = [a0, a1, a2, a3] from rfl, be4n], (below1 _ _).trans (hb3.mono (below1 _ _).size)⟩
theorem c_BE64 (w : World) (X : Nat → Prop) (v : Value) (l : List UInt8) (hv : BytesRep w X v l) (hl : 8 ≤ l.length) :
    Calls Tryd.prog 67 #[.agg #[], v] w fun e w' => e = .returned (.int .u64 (beNat (l.take 8) : Nat)) ∧ Below w.heap.size w w' := by
  obtain ⟨b, o, n, c, rfl, hx, hb, hln, hc, hcell⟩ := hv
  subst hln
  match l, hl, hcell with
  | a0 :: a1 :: a2 :: a3 :: a4 :: a5 :: a6 :: a7 :: r, _, hcell =>
    have ha0 := a0.toNat_lt
    have ha1 := a1.toNat_lt
    have ha2 := a2.toNat_lt
    have ha3 := a3.toNat_lt
    have ha4 := a4.toNat_lt
    have ha5 := a5.toNat_lt
    have ha6 := a6.toNat_lt
    have ha7 := a7.toNat_lt
    have hlen : 8 ≤ (a0 :: a1 :: a2 :: a3 :: a4 :: a5 :: a6 :: a7 :: r).length := by simp
    refine calls_wk (args := [.agg #[], .slice (some ⟨b, o, none⟩) (a0 :: a1 :: a2 :: a3 :: a4 :: a5 :: a6 :: a7 :: r).length c]) Tryd.func67 rfl rfl ?_
    have d0 := cells_at (fun i x hi => (World.cell?_of_block ((below1 w (.cells (Value.agg #[]).cells 97)).block b hb)).trans (hcell i x hi)) 0 a0 rfl
    have d1 := cells_at (fun i x hi => (World.cell?_of_block ((below1 w (.cells (Value.agg #[]).cells 97)).block b hb)).trans (hcell i x hi)) 1 a1 rfl
    have d2 := cells_at (fun i x hi => (World.cell?_of_block ((below1 w (.cells (Value.agg #[]).cells 97)).block b hb)).trans (hcell i x hi)) 2 a2 rfl
    have d3 := cells_at (fun i x hi => (World.cell?_of_block ((below1 w (.cells (Value.agg #[]).cells 97)).block b hb)).trans (hcell i x hi)) 3 a3 rfl
    have d4 := cells_at (fun i x hi => (World.cell?_of_block ((below1 w (.cells (Value.agg #[]).cells 97)).block b hb)).trans (hcell i x hi)) 4 a4 rfl
    have d5 := cells_at (fun i x hi => (World.cell?_of_block ((below1 w (.cells (Value.agg #[]).cells 97)).block b hb)).trans (hcell i x hi)) 5 a5 rfl
    have d6 := cells_at (fun i x hi => (World.cell?_of_block ((below1 w (.cells (Value.agg #[]).cells 97)).block b hb)).trans (hcell i x hi)) 6 a6 rfl
    have d7 := cells_at (fun i x hi => (World.cell?_of_block ((below1 w (.cells (Value.agg #[]).cells 97)).block b hb)).trans (hcell i x hi)) 7 a7 rfl
    refine wk_seq ?_
    refine wk_reg (id := 0) ?_
    refine wk_box rfl rfl ?_
    refine wk_assign rfl rfl ?_
    refine wk_nil ?_
    refine wk_seq ?_
    refine wk_reg (id := 1) ?_
    refine wk_move rfl rfl ?_
    refine wk_idxB 7 byteT rfl rfl (by omega) rfl ?_
    refine wk_load rfl Tryd.underlying5 rfl (by with_reducible assumption) rfl ?_
    refine wk_nil ?_
    refine wk_seq ?_
    refine wk_draw (fun w' => w'.heap = (w.alloc (.cells (Value.agg #[]).cells 97)).heap) [(0, true), (1, true), (2, true), (3, true), (4, true), (5, true), (6, true), (7, true), (8, true), (9, true), (10, true), (11, true), (12, true), (13, true), (14, true), (15, true), (16, true), (17, true), (18, true), (19, true), (20, true), (21, true), (22, true), (23, true), (24, true), (25, true), (26, true), (27, true), (28, true), (29, true), (30, true), (31, true), (32, true), (33, true), (34, true), (35, true), (36, true), (37, true), (38, true), (39, true), (40, true), (41, true), (42, true), (43, true), (44, true), (45, true), (46, true)] mixedR pq0 (by kernel_rfl) (by kernel_rfl) (by kernel_rfl) (fun w5 h5 _ => h5) ?_
    intro w3 h3 hb3
    have v0 : IntKind.u64.wrap (a0.toNat : Int) = (a0.toNat : Nat) := u64n _ (by omega)
    have v1 : IntKind.u64.wrap (a1.toNat : Int) = (a1.toNat : Nat) := u64n _ (by omega)
    have v2 : IntKind.u64.wrap (a2.toNat : Int) = (a2.toNat : Nat) := u64n _ (by omega)
    have v3 : IntKind.u64.wrap (a3.toNat : Int) = (a3.toNat : Nat) := u64n _ (by omega)
    have v4 : IntKind.u64.wrap (a4.toNat : Int) = (a4.toNat : Nat) := u64n _ (by omega)
    have v5 : IntKind.u64.wrap (a5.toNat : Int) = (a5.toNat : Nat) := u64n _ (by omega)
    have v6 : IntKind.u64.wrap (a6.toNat : Int) = (a6.toNat : Nat) := u64n _ (by omega)
    have v7 : IntKind.u64.wrap (a7.toNat : Int) = (a7.toNat : Nat) := u64n _ (by omega)
    have s0 : IntKind.u64.wrap ((a0.toNat : Int) * 2 ^ 56) = ((a0.toNat * 2 ^ 56 : Nat) : Int) := kshl kw64 _ _ (by simp only [IntKind.bits]; omega)
    have s1 : IntKind.u64.wrap ((a1.toNat : Int) * 2 ^ 48) = ((a1.toNat * 2 ^ 48 : Nat) : Int) := kshl kw64 _ _ (by simp only [IntKind.bits]; omega)
    have s2 : IntKind.u64.wrap ((a2.toNat : Int) * 2 ^ 40) = ((a2.toNat * 2 ^ 40 : Nat) : Int) := kshl kw64 _ _ (by simp only [IntKind.bits]; omega)
    have s3 : IntKind.u64.wrap ((a3.toNat : Int) * 2 ^ 32) = ((a3.toNat * 2 ^ 32 : Nat) : Int) := kshl kw64 _ _ (by simp only [IntKind.bits]; omega)
    have s4 : IntKind.u64.wrap ((a4.toNat : Int) * 2 ^ 24) = ((a4.toNat * 2 ^ 24 : Nat) : Int) := kshl kw64 _ _ (by simp only [IntKind.bits]; omega)
    have s5 : IntKind.u64.wrap ((a5.toNat : Int) * 2 ^ 16) = ((a5.toNat * 2 ^ 16 : Nat) : Int) := kshl kw64 _ _ (by simp only [IntKind.bits]; omega)
    have s6 : IntKind.u64.wrap ((a6.toNat : Int) * 2 ^ 8) = ((a6.toNat * 2 ^ 8 : Nat) : Int) := kshl kw64 _ _ (by simp only [IntKind.bits]; omega)
    have q6 := kor kw64 (a7.toNat) a6.toNat 8 (by omega) (by simp only [IntKind.bits]; omega)
    have q5 := kor kw64 (a7.toNat + a6.toNat * 2 ^ 8) a5.toNat 16 (by omega) (by simp only [IntKind.bits]; omega)
    have q4 := kor kw64 (a7.toNat + a6.toNat * 2 ^ 8 + a5.toNat * 2 ^ 16) a4.toNat 24 (by omega) (by simp only [IntKind.bits]; omega)
    have q3 := kor kw64 (a7.toNat + a6.toNat * 2 ^ 8 + a5.toNat * 2 ^ 16 + a4.toNat * 2 ^ 24) a3.toNat 32 (by omega) (by simp only [IntKind.bits]; omega)
    have q2 := kor kw64 (a7.toNat + a6.toNat * 2 ^ 8 + a5.toNat * 2 ^ 16 + a4.toNat * 2 ^ 24 + a3.toNat * 2 ^ 32) a2.toNat 40 (by omega) (by simp only [IntKind.bits]; omega)
    have q1 := kor kw64 (a7.toNat + a6.toNat * 2 ^ 8 + a5.toNat * 2 ^ 16 + a4.toNat * 2 ^ 24 + a3.toNat * 2 ^ 32 + a2.toNat * 2 ^ 40) a1.toNat 48 (by omega) (by simp only [IntKind.bits]; omega)
    have q0 := kor kw64 (a7.toNat + a6.toNat * 2 ^ 8 + a5.toNat * 2 ^ 16 + a4.toNat * 2 ^ 24 + a3.toNat * 2 ^ 32 + a2.toNat * 2 ^ 40 + a1.toNat * 2 ^ 48) a0.toNat 56 (by omega) (by simp only [IntKind.bits]; omega)
    refine wd_move rfl rfl rfl ?_
    refine wd_idxB 7 byteT rfl rfl rfl (by first | with_reducible assumption | omega) rfl ?_
    refine wd_load rfl rfl Tryd.underlying5 rfl (fun w_ hS_ => cell_heap hS_ (by with_reducible assumption)) rfl ?_
    refine wd_convV rfl rfl Tryd.underlying5 Tryd.underlying90 (by with_reducible assumption) rfl ?_
    refine wd_move rfl rfl rfl ?_
    refine wd_idxB 6 byteT rfl rfl rfl (by first | with_reducible assumption | omega) rfl ?_
    refine wd_load rfl rfl Tryd.underlying5 rfl (fun w_ hS_ => cell_heap hS_ (by with_reducible assumption)) rfl ?_
    refine wd_convV rfl rfl Tryd.underlying5 Tryd.underlying90 (by with_reducible assumption) rfl ?_
    refine wd_shl 8 rfl rfl rfl rfl (by with_reducible assumption) rfl ?_
    refine wd_orV rfl rfl rfl (by with_reducible assumption) rfl ?_
    refine wd_move rfl rfl rfl ?_
    refine wd_idxB 5 byteT rfl rfl rfl (by first | with_reducible assumption | omega) rfl ?_
    refine wd_load rfl rfl Tryd.underlying5 rfl (fun w_ hS_ => cell_heap hS_ (by with_reducible assumption)) rfl ?_
    refine wd_convV rfl rfl Tryd.underlying5 Tryd.underlying90 (by with_reducible assumption) rfl ?_
    refine wd_shl 16 rfl rfl rfl rfl (by with_reducible assumption) rfl ?_
    refine wd_orV rfl rfl rfl (by with_reducible assumption) rfl ?_
    refine wd_move rfl rfl rfl ?_
    refine wd_idxB 4 byteT rfl rfl rfl (by first | with_reducible assumption | omega) rfl ?_
    refine wd_load rfl rfl Tryd.underlying5 rfl (fun w_ hS_ => cell_heap hS_ (by with_reducible assumption)) rfl ?_
    refine wd_convV rfl rfl Tryd.underlying5 Tryd.underlying90 (by with_reducible assumption) rfl ?_
    refine wd_shl 24 rfl rfl rfl rfl (by with_reducible assumption) rfl ?_
    refine wd_orV rfl rfl rfl (by with_reducible assumption) rfl ?_
    refine wd_move rfl rfl rfl ?_
    refine wd_idxB 3 byteT rfl rfl rfl (by first | with_reducible assumption | omega) rfl ?_
    refine wd_load rfl rfl Tryd.underlying5 rfl (fun w_ hS_ => cell_heap hS_ (by with_reducible assumption)) rfl ?_
    refine wd_convV rfl rfl Tryd.underlying5 Tryd.underlying90 (by with_reducible assumption) rfl ?_
    refine wd_shl 32 rfl rfl rfl rfl (by with_reducible assumption) rfl ?_
    refine wd_orV rfl rfl rfl (by with_reducible assumption) rfl ?_
    refine wd_move rfl rfl rfl ?_
    refine wd_idxB 2 byteT rfl rfl rfl (by first | with_reducible assumption | omega) rfl ?_
    refine wd_load rfl rfl Tryd.underlying5 rfl (fun w_ hS_ => cell_heap hS_ (by with_reducible assumption)) rfl ?_
    refine wd_convV rfl rfl Tryd.underlying5 Tryd.underlying90 (by with_reducible assumption) rfl ?_
    refine wd_shl 40 rfl rfl rfl rfl (by with_reducible assumption) rfl ?_
    refine wd_orV rfl rfl rfl (by with_reducible assumption) rfl ?_
    refine wd_move rfl rfl rfl ?_
    refine wd_idxB 1 byteT rfl rfl rfl (by first | with_reducible assumption | omega) rfl ?_
    refine wd_load rfl rfl Tryd.underlying5 rfl (fun w_ hS_ => cell_heap hS_ (by with_reducible assumption)) rfl ?_
    refine wd_convV rfl rfl Tryd.underlying5 Tryd.underlying90 (by with_reducible assumption) rfl ?_
    refine wd_shl 48 rfl rfl rfl rfl (by with_reducible assumption) rfl ?_
    refine wd_orV rfl rfl rfl (by with_reducible assumption) rfl ?_
    refine wd_move rfl rfl rfl ?_
    refine wd_idxB 0 byteT rfl rfl rfl (by first | with_reducible assumption | omega) rfl ?_
    refine wd_load rfl rfl Tryd.underlying5 rfl (fun w_ hS_ => cell_heap hS_ (by with_reducible assumption)) rfl ?_
    refine wd_convV rfl rfl Tryd.underlying5 Tryd.underlying90 (by with_reducible assumption) rfl ?_
    refine wd_shl 56 rfl rfl rfl rfl (by with_reducible assumption) rfl ?_
    refine wd_orV rfl rfl rfl (by with_reducible assumption) rfl ?_
    refine wd_assign rfl rfl rfl ?_
    refine wd_done ?_
    skip
    exact wk_ret r0 rfl rfl ⟨by rw [show (a0 :: a1 :: a2 :: a3 :: a4 :: a5 :: a6 :: a7 :: r).take 8 = [a0, a1, a2, a3, a4, a5, a6, a7] from rfl, be8n], (below1 _ _).trans (hb3.mono (below1 _ _).size)⟩
/-- What kbin.Uvarint answers. -/
def UvAns (l : List UInt8) (n : Nat) (k : Int) : Prop := match rUvL 4 1 0 l with
  | some (x, r) => n = x ∧ ∃ j : Nat, k = (j : Int) ∧ 0 < j ∧ j ≤ l.length ∧ r = l.drop j
  | none => k ≤ 0
theorem c_Uvarint (w : World) (X : Nat → Prop) (v : Value) (l : List UInt8) (hv : BytesRep0 w X v l) :
    Calls Tryd.prog 63 #[v] w fun e w' => ∃ n k, e = .returned (.tuple #[.int .u32 (n : Nat), .int .i64 k]) ∧ UvAns l n k ∧ w' = w := by
  obtain ⟨A, c, hvf, hcell⟩ : ∃ A c, v = .slice A l.length c ∧ ∀ (i : Nat) (x : UInt8), l[i]? = some x → ∃ b o, A = some ⟨b, o, none⟩ ∧ ∀ (i : Nat) (x : UInt8), l[i]? = some x → w.cell? ⟨b, o + i, none⟩ = some (bv x) := by
    rcases hv with ⟨⟨A0, rfl⟩, rfl⟩ | ⟨b, o, n, c, rfl, _, _, hln, _, hcell⟩
    · exact ⟨A0, 0, rfl, fun i x h => by simp at h⟩
    · subst hln
      exact ⟨_, c, rfl, fun i x h => ⟨b, o, rfl, hcell⟩⟩
  subst hvf
  refine calls_wk (args := [.slice A l.length c]) Tryd.func63 rfl rfl ?_
  refine wk_seq ?_
  refine wk_reg (id := 0) ?_
  refine wk_assign rfl rfl ?_
  refine wk_assign rfl rfl ?_
  refine wk_nil ?_
  refine wk_scopeK 0 [(5, .int .i64 0)] (UvAns l 0 0) rfl ?_ ?_
  rotate_left
  · intro hans
    refine wk_seq ?_
    refine wk_skip ?_
    refine wk_seq ?_
    refine wk_reg (id := 24) ?_
    refine wk_move rfl rfl ?_
    refine wk_assign rfl rfl ?_
    refine wk_assign rfl rfl ?_
    refine wk_nil ?_
    exact wk_ret2 (rj r0) rfl rfl rfl ⟨0, 0, rfl, hans, rfl⟩
  · refine wk_seq ?_
    refine wk_reg (id := 1) ?_
    refine wk_assign rfl rfl ?_
    refine wk_nil ?_
    refine wk_seq ?_
    refine wk_reg (id := 2) ?_
    refine wk_assign rfl rfl ?_
    refine wk_nil ?_
    refine wk_seq ?_
    refine wk_seq ?_
    refine wk_reg (id := 3) ?_
    refine wk_move rfl rfl ?_
    refine wk_slen rfl Tryd.underlying22 rfl ?_
    refine wk_cmp rfl rfl rfl rfl ?_
    refine wk_nil ?_
    generalize hl0 : l = r0 at *
    cases r0 with
    | nil =>
      have z0 : cmp .lss ((([] : List UInt8).length : Nat) : Int) 1 = some true := by simp [cmp]
      skip
      refine wk_condT rfl ?_
      exact wk_goto (fun a ha => ⟨rfl, by simp [UvAns, rUvL], ha.weak (known_sub rfl)⟩)
    | cons b0 r1 =>
      have hb0 := b0.toNat_lt
      obtain ⟨bb, oo, rfl, hc0⟩ := hcell 0 b0 rfl
      have l0 : 0 < (b0 :: r1).length := by simp
      have z0 : cmp .lss (((b0 :: r1).length : Nat) : Int) 1 = some false := by simp [cmp]; omega
      have d0 := cells_at hc0 0 b0 rfl
      have m0 := u8and7 b0.toNat hb0
      have u0 : IntKind.u32.wrap ((b0.toNat % 128 : Nat) : Int) = ((b0.toNat % 128 : Nat) : Int) := u32n _ (by omega)
      skip
      refine wk_condF rfl ?_
      by_cases g0 : b0.toNat < 128
      · have y0 := u8and8 b0.toNat hb0
        rw [if_pos g0] at y0
        refine wk_skip ?_
        refine wk_seq ?_
        refine wk_reg (id := 4) ?_
        refine wk_move rfl rfl ?_
        refine wk_idxB 0 byteT rfl rfl (by with_reducible assumption) rfl ?_
        refine wk_load rfl Tryd.underlying5 rfl (by with_reducible assumption) rfl ?_
        refine wk_andV rfl rfl (by with_reducible assumption) rfl ?_
        refine wk_convV rfl Tryd.underlying5 Tryd.underlying64 (by with_reducible assumption) rfl ?_
        refine wk_assign rfl rfl ?_
        refine wk_nil ?_
        refine wk_seq ?_
        refine wk_seq ?_
        refine wk_reg (id := 5) ?_
        refine wk_move rfl rfl ?_
        refine wk_idxB 0 byteT rfl rfl (by with_reducible assumption) rfl ?_
        refine wk_load rfl Tryd.underlying5 rfl (by with_reducible assumption) rfl ?_
        refine wk_andV rfl rfl (by with_reducible assumption) rfl ?_
        refine wk_cmp rfl rfl rfl rfl ?_
        refine wk_nil ?_
        refine wk_condT rfl ?_
        refine wk_seq ?_
        refine wk_reg (id := 6) ?_
        refine wk_move rfl rfl ?_
        refine wk_assign rfl rfl ?_
        refine wk_assign rfl rfl ?_
        refine wk_nil ?_
        exact wk_ret2 (rj r0) rfl rfl rfl ⟨b0.toNat % 128, 1, rfl, by simp only [UvAns, rUvL, g0, if_true, if_false]; exact ⟨by omega, 1, rfl, by decide, by simp, rfl⟩, rfl⟩
      · have y0 := u8and8 b0.toNat hb0
        rw [if_neg g0] at y0
        refine wk_skip ?_
        refine wk_seq ?_
        refine wk_reg (id := 4) ?_
        refine wk_move rfl rfl ?_
        refine wk_idxB 0 byteT rfl rfl (by with_reducible assumption) rfl ?_
        refine wk_load rfl Tryd.underlying5 rfl (by with_reducible assumption) rfl ?_
        refine wk_andV rfl rfl (by with_reducible assumption) rfl ?_
        refine wk_convV rfl Tryd.underlying5 Tryd.underlying64 (by with_reducible assumption) rfl ?_
        refine wk_assign rfl rfl ?_
        refine wk_nil ?_
        refine wk_seq ?_
        refine wk_seq ?_
        refine wk_reg (id := 5) ?_
        refine wk_move rfl rfl ?_
        refine wk_idxB 0 byteT rfl rfl (by with_reducible assumption) rfl ?_
        refine wk_load rfl Tryd.underlying5 rfl (by with_reducible assumption) rfl ?_
        refine wk_andV rfl rfl (by with_reducible assumption) rfl ?_
        refine wk_cmp rfl rfl rfl rfl ?_
        refine wk_nil ?_
        refine wk_condF rfl ?_
        refine wk_seq ?_
        refine wk_reg (id := 7) ?_
        refine wk_move rfl rfl ?_
        refine wk_slen rfl Tryd.underlying22 rfl ?_
        refine wk_cmp rfl rfl rfl rfl ?_
        refine wk_nil ?_
        cases r1 with
        | nil =>
          have z1 : cmp .lss (((b0 :: [] : List UInt8).length : Nat) : Int) 2 = some true := by simp [cmp]
          skip
          refine wk_condT rfl ?_
          exact wk_goto (fun a ha => ⟨rfl, by simp [UvAns, rUvL, g0], ha.weak (known_sub rfl)⟩)
        | cons b1 r2 =>
          have hb1 := b1.toNat_lt
          skip
          have l1 : 1 < (b0 :: b1 :: r2).length := by simp
          have z1 : cmp .lss (((b0 :: b1 :: r2).length : Nat) : Int) 2 = some false := by simp [cmp]; omega
          have d1 := cells_at hc0 1 b1 rfl
          have m1 := u8and7 b1.toNat hb1
          have u1 : IntKind.u32.wrap ((b1.toNat % 128 : Nat) : Int) = ((b1.toNat % 128 : Nat) : Int) := u32n _ (by omega)
          have s1 := u32shl (b1.toNat % 128) 7 (by omega)
          have o1 := u32or (b0.toNat % 128) (b1.toNat % 128) 7 (by omega) (by omega)
          skip
          refine wk_condF rfl ?_
          by_cases g1 : b1.toNat < 128
          · have y1 := u8and8 b1.toNat hb1
            rw [if_pos g1] at y1
            refine wk_skip ?_
            refine wk_seq ?_
            refine wk_reg (id := 8) ?_
            refine wk_move rfl rfl ?_
            refine wk_move rfl rfl ?_
            refine wk_idxB 1 byteT rfl rfl (by with_reducible assumption) rfl ?_
            refine wk_load rfl Tryd.underlying5 rfl (by with_reducible assumption) rfl ?_
            refine wk_andV rfl rfl (by with_reducible assumption) rfl ?_
            refine wk_convV rfl Tryd.underlying5 Tryd.underlying64 (by with_reducible assumption) rfl ?_
            refine wk_shl 7 rfl rfl rfl (by with_reducible assumption) rfl ?_
            refine wk_orV rfl rfl (by with_reducible assumption) rfl ?_
            refine wk_assign rfl rfl ?_
            refine wk_nil ?_
            refine wk_seq ?_
            refine wk_seq ?_
            refine wk_reg (id := 9) ?_
            refine wk_move rfl rfl ?_
            refine wk_idxB 1 byteT rfl rfl (by with_reducible assumption) rfl ?_
            refine wk_load rfl Tryd.underlying5 rfl (by with_reducible assumption) rfl ?_
            refine wk_andV rfl rfl (by with_reducible assumption) rfl ?_
            refine wk_cmp rfl rfl rfl rfl ?_
            refine wk_nil ?_
            refine wk_condT rfl ?_
            refine wk_seq ?_
            refine wk_reg (id := 10) ?_
            refine wk_move rfl rfl ?_
            refine wk_assign rfl rfl ?_
            refine wk_assign rfl rfl ?_
            refine wk_nil ?_
            exact wk_ret2 (rj r0) rfl rfl rfl ⟨b0.toNat % 128 + b1.toNat % 128 * 2 ^ 7, 2, rfl, by simp only [UvAns, rUvL, g0, g1, if_true, if_false]; exact ⟨by omega, 2, rfl, by decide, by simp, rfl⟩, rfl⟩
          · have y1 := u8and8 b1.toNat hb1
            rw [if_neg g1] at y1
            refine wk_skip ?_
            refine wk_seq ?_
            refine wk_reg (id := 8) ?_
            refine wk_move rfl rfl ?_
            refine wk_move rfl rfl ?_
            refine wk_idxB 1 byteT rfl rfl (by with_reducible assumption) rfl ?_
            refine wk_load rfl Tryd.underlying5 rfl (by with_reducible assumption) rfl ?_
            refine wk_andV rfl rfl (by with_reducible assumption) rfl ?_
            refine wk_convV rfl Tryd.underlying5 Tryd.underlying64 (by with_reducible assumption) rfl ?_
            refine wk_shl 7 rfl rfl rfl (by with_reducible assumption) rfl ?_
            refine wk_orV rfl rfl (by with_reducible assumption) rfl ?_
            refine wk_assign rfl rfl ?_
            refine wk_nil ?_
            refine wk_seq ?_
            refine wk_seq ?_
            refine wk_reg (id := 9) ?_
            refine wk_move rfl rfl ?_
            refine wk_idxB 1 byteT rfl rfl (by with_reducible assumption) rfl ?_
            refine wk_load rfl Tryd.underlying5 rfl (by with_reducible assumption) rfl ?_
            refine wk_andV rfl rfl (by with_reducible assumption) rfl ?_
            refine wk_cmp rfl rfl rfl rfl ?_
            refine wk_nil ?_
            refine wk_condF rfl ?_
            refine wk_seq ?_
            refine wk_reg (id := 11) ?_
            refine wk_move rfl rfl ?_
            refine wk_slen rfl Tryd.underlying22 rfl ?_
            refine wk_cmp rfl rfl rfl rfl ?_
            refine wk_nil ?_
            cases r2 with
            | nil =>
              have z2 : cmp .lss (((b0 :: b1 :: [] : List UInt8).length : Nat) : Int) 3 = some true := by simp [cmp]
              skip
              refine wk_condT rfl ?_
              exact wk_goto (fun a ha => ⟨rfl, by simp [UvAns, rUvL, g0, g1], ha.weak (known_sub rfl)⟩)
            | cons b2 r3 =>
              have hb2 := b2.toNat_lt
              skip
              have l2 : 2 < (b0 :: b1 :: b2 :: r3).length := by simp
              have z2 : cmp .lss (((b0 :: b1 :: b2 :: r3).length : Nat) : Int) 3 = some false := by simp [cmp]; omega
              have d2 := cells_at hc0 2 b2 rfl
              have m2 := u8and7 b2.toNat hb2
              have u2 : IntKind.u32.wrap ((b2.toNat % 128 : Nat) : Int) = ((b2.toNat % 128 : Nat) : Int) := u32n _ (by omega)
              have s2 := u32shl (b2.toNat % 128) 14 (by omega)
              have o2 := u32or (b0.toNat % 128 + b1.toNat % 128 * 2 ^ 7) (b2.toNat % 128) 14 (by omega) (by omega)
              skip
              refine wk_condF rfl ?_
              by_cases g2 : b2.toNat < 128
              · have y2 := u8and8 b2.toNat hb2
                rw [if_pos g2] at y2
                refine wk_skip ?_
                refine wk_seq ?_
                refine wk_reg (id := 12) ?_
                refine wk_move rfl rfl ?_
                refine wk_move rfl rfl ?_
                refine wk_idxB 2 byteT rfl rfl (by with_reducible assumption) rfl ?_
                refine wk_load rfl Tryd.underlying5 rfl (by with_reducible assumption) rfl ?_
                refine wk_andV rfl rfl (by with_reducible assumption) rfl ?_
                refine wk_convV rfl Tryd.underlying5 Tryd.underlying64 (by with_reducible assumption) rfl ?_
                refine wk_shl 14 rfl rfl rfl (by with_reducible assumption) rfl ?_
                refine wk_orV rfl rfl (by with_reducible assumption) rfl ?_
                refine wk_assign rfl rfl ?_
                refine wk_nil ?_
                refine wk_seq ?_
                refine wk_seq ?_
                refine wk_reg (id := 13) ?_
                refine wk_move rfl rfl ?_
                refine wk_idxB 2 byteT rfl rfl (by with_reducible assumption) rfl ?_
                refine wk_load rfl Tryd.underlying5 rfl (by with_reducible assumption) rfl ?_
                refine wk_andV rfl rfl (by with_reducible assumption) rfl ?_
                refine wk_cmp rfl rfl rfl rfl ?_
                refine wk_nil ?_
                refine wk_condT rfl ?_
                refine wk_seq ?_
                refine wk_reg (id := 14) ?_
                refine wk_move rfl rfl ?_
                refine wk_assign rfl rfl ?_
                refine wk_assign rfl rfl ?_
                refine wk_nil ?_
                exact wk_ret2 (rj r0) rfl rfl rfl ⟨b0.toNat % 128 + b1.toNat % 128 * 2 ^ 7 + b2.toNat % 128 * 2 ^ 14, 3, rfl, by simp only [UvAns, rUvL, g0, g1, g2, if_true, if_false]; exact ⟨by omega, 3, rfl, by decide, by simp, rfl⟩, rfl⟩
              · have y2 := u8and8 b2.toNat hb2
                rw [if_neg g2] at y2
                refine wk_skip ?_
                refine wk_seq ?_
                refine wk_reg (id := 12) ?_
                refine wk_move rfl rfl ?_
                refine wk_move rfl rfl ?_
                refine wk_idxB 2 byteT rfl rfl (by with_reducible assumption) rfl ?_
                refine wk_load rfl Tryd.underlying5 rfl (by with_reducible assumption) rfl ?_
                refine wk_andV rfl rfl (by with_reducible assumption) rfl ?_
                refine wk_convV rfl Tryd.underlying5 Tryd.underlying64 (by with_reducible assumption) rfl ?_
                refine wk_shl 14 rfl rfl rfl (by with_reducible assumption) rfl ?_
                refine wk_orV rfl rfl (by with_reducible assumption) rfl ?_
                refine wk_assign rfl rfl ?_
                refine wk_nil ?_
                refine wk_seq ?_
                refine wk_seq ?_
                refine wk_reg (id := 13) ?_
                refine wk_move rfl rfl ?_
                refine wk_idxB 2 byteT rfl rfl (by with_reducible assumption) rfl ?_
                refine wk_load rfl Tryd.underlying5 rfl (by with_reducible assumption) rfl ?_
                refine wk_andV rfl rfl (by with_reducible assumption) rfl ?_
                refine wk_cmp rfl rfl rfl rfl ?_
                refine wk_nil ?_
                refine wk_condF rfl ?_
                refine wk_seq ?_
                refine wk_reg (id := 15) ?_
                refine wk_move rfl rfl ?_
                refine wk_slen rfl Tryd.underlying22 rfl ?_
                refine wk_cmp rfl rfl rfl rfl ?_
                refine wk_nil ?_
                cases r3 with
                | nil =>
                  have z3 : cmp .lss (((b0 :: b1 :: b2 :: [] : List UInt8).length : Nat) : Int) 4 = some true := by simp [cmp]
                  skip
                  refine wk_condT rfl ?_
                  exact wk_goto (fun a ha => ⟨rfl, by simp [UvAns, rUvL, g0, g1, g2], ha.weak (known_sub rfl)⟩)
                | cons b3 r4 =>
                  have hb3 := b3.toNat_lt
                  skip
                  have l3 : 3 < (b0 :: b1 :: b2 :: b3 :: r4).length := by simp
                  have z3 : cmp .lss (((b0 :: b1 :: b2 :: b3 :: r4).length : Nat) : Int) 4 = some false := by simp [cmp]; omega
                  have d3 := cells_at hc0 3 b3 rfl
                  have m3 := u8and7 b3.toNat hb3
                  have u3 : IntKind.u32.wrap ((b3.toNat % 128 : Nat) : Int) = ((b3.toNat % 128 : Nat) : Int) := u32n _ (by omega)
                  have s3 := u32shl (b3.toNat % 128) 21 (by omega)
                  have o3 := u32or (b0.toNat % 128 + b1.toNat % 128 * 2 ^ 7 + b2.toNat % 128 * 2 ^ 14) (b3.toNat % 128) 21 (by omega) (by omega)
                  skip
                  refine wk_condF rfl ?_
                  by_cases g3 : b3.toNat < 128
                  · have y3 := u8and8 b3.toNat hb3
                    rw [if_pos g3] at y3
                    refine wk_skip ?_
                    refine wk_seq ?_
                    refine wk_reg (id := 16) ?_
                    refine wk_move rfl rfl ?_
                    refine wk_move rfl rfl ?_
                    refine wk_idxB 3 byteT rfl rfl (by with_reducible assumption) rfl ?_
                    refine wk_load rfl Tryd.underlying5 rfl (by with_reducible assumption) rfl ?_
                    refine wk_andV rfl rfl (by with_reducible assumption) rfl ?_
                    refine wk_convV rfl Tryd.underlying5 Tryd.underlying64 (by with_reducible assumption) rfl ?_
                    refine wk_shl 21 rfl rfl rfl (by with_reducible assumption) rfl ?_
                    refine wk_orV rfl rfl (by with_reducible assumption) rfl ?_
                    refine wk_assign rfl rfl ?_
                    refine wk_nil ?_
                    refine wk_seq ?_
                    refine wk_seq ?_
                    refine wk_reg (id := 17) ?_
                    refine wk_move rfl rfl ?_
                    refine wk_idxB 3 byteT rfl rfl (by with_reducible assumption) rfl ?_
                    refine wk_load rfl Tryd.underlying5 rfl (by with_reducible assumption) rfl ?_
                    refine wk_andV rfl rfl (by with_reducible assumption) rfl ?_
                    refine wk_cmp rfl rfl rfl rfl ?_
                    refine wk_nil ?_
                    refine wk_condT rfl ?_
                    refine wk_seq ?_
                    refine wk_reg (id := 18) ?_
                    refine wk_move rfl rfl ?_
                    refine wk_assign rfl rfl ?_
                    refine wk_assign rfl rfl ?_
                    refine wk_nil ?_
                    exact wk_ret2 (rj r0) rfl rfl rfl ⟨b0.toNat % 128 + b1.toNat % 128 * 2 ^ 7 + b2.toNat % 128 * 2 ^ 14 + b3.toNat % 128 * 2 ^ 21, 4, rfl, by simp only [UvAns, rUvL, g0, g1, g2, g3, if_true, if_false]; exact ⟨by omega, 4, rfl, by decide, by simp, rfl⟩, rfl⟩
                  · have y3 := u8and8 b3.toNat hb3
                    rw [if_neg g3] at y3
                    refine wk_skip ?_
                    refine wk_seq ?_
                    refine wk_reg (id := 16) ?_
                    refine wk_move rfl rfl ?_
                    refine wk_move rfl rfl ?_
                    refine wk_idxB 3 byteT rfl rfl (by with_reducible assumption) rfl ?_
                    refine wk_load rfl Tryd.underlying5 rfl (by with_reducible assumption) rfl ?_
                    refine wk_andV rfl rfl (by with_reducible assumption) rfl ?_
                    refine wk_convV rfl Tryd.underlying5 Tryd.underlying64 (by with_reducible assumption) rfl ?_
                    refine wk_shl 21 rfl rfl rfl (by with_reducible assumption) rfl ?_
                    refine wk_orV rfl rfl (by with_reducible assumption) rfl ?_
                    refine wk_assign rfl rfl ?_
                    refine wk_nil ?_
                    refine wk_seq ?_
                    refine wk_seq ?_
                    refine wk_reg (id := 17) ?_
                    refine wk_move rfl rfl ?_
                    refine wk_idxB 3 byteT rfl rfl (by with_reducible assumption) rfl ?_
                    refine wk_load rfl Tryd.underlying5 rfl (by with_reducible assumption) rfl ?_
                    refine wk_andV rfl rfl (by with_reducible assumption) rfl ?_
                    refine wk_cmp rfl rfl rfl rfl ?_
                    refine wk_nil ?_
                    refine wk_condF rfl ?_
                    refine wk_seq ?_
                    refine wk_reg (id := 19) ?_
                    refine wk_move rfl rfl ?_
                    refine wk_slen rfl Tryd.underlying22 rfl ?_
                    refine wk_cmp rfl rfl rfl rfl ?_
                    refine wk_nil ?_
                    cases r4 with
                    | nil =>
                      have z4 : cmp .lss (((b0 :: b1 :: b2 :: b3 :: [] : List UInt8).length : Nat) : Int) 5 = some true := by simp [cmp]
                      skip
                      refine wk_condT rfl ?_
                      exact wk_goto (fun a ha => ⟨rfl, by simp [UvAns, rUvL, g0, g1, g2, g3], ha.weak (known_sub rfl)⟩)
                    | cons b4 r5 =>
                      have hb4 := b4.toNat_lt
                      skip
                      have l4 : 4 < (b0 :: b1 :: b2 :: b3 :: b4 :: r5).length := by simp
                      have z4 : cmp .lss (((b0 :: b1 :: b2 :: b3 :: b4 :: r5).length : Nat) : Int) 5 = some false := by simp [cmp]; omega
                      have d4 := cells_at hc0 4 b4 rfl
                      skip
                      refine wk_condF rfl ?_
                      by_cases g4 : b4.toNat ≤ 15
                      · have u4 : IntKind.u32.wrap (b4.toNat : Int) = ((b4.toNat : Nat) : Int) := u32n _ (by omega)
                        have s4 := u32shl b4.toNat 28 (by omega)
                        have o4 := u32or (b0.toNat % 128 + b1.toNat % 128 * 2 ^ 7 + b2.toNat % 128 * 2 ^ 14 + b3.toNat % 128 * 2 ^ 21) b4.toNat 28 (by omega) (by omega)
                        have y4 : cmp .leq (b4.toNat : Int) 15 = some true := by simp [cmp]; omega
                        refine wk_skip ?_
                        refine wk_seq ?_
                        refine wk_reg (id := 20) ?_
                        refine wk_move rfl rfl ?_
                        refine wk_move rfl rfl ?_
                        refine wk_idxB 4 byteT rfl rfl (by with_reducible assumption) rfl ?_
                        refine wk_load rfl Tryd.underlying5 rfl (by with_reducible assumption) rfl ?_
                        refine wk_convV rfl Tryd.underlying5 Tryd.underlying64 (by with_reducible assumption) rfl ?_
                        refine wk_shl 28 rfl rfl rfl (by with_reducible assumption) rfl ?_
                        refine wk_orV rfl rfl (by with_reducible assumption) rfl ?_
                        refine wk_assign rfl rfl ?_
                        refine wk_nil ?_
                        refine wk_seq ?_
                        refine wk_seq ?_
                        refine wk_reg (id := 21) ?_
                        refine wk_move rfl rfl ?_
                        refine wk_idxB 4 byteT rfl rfl (by with_reducible assumption) rfl ?_
                        refine wk_load rfl Tryd.underlying5 rfl (by with_reducible assumption) rfl ?_
                        refine wk_cmp rfl rfl (by with_reducible assumption) rfl ?_
                        refine wk_nil ?_
                        refine wk_condT rfl ?_
                        refine wk_seq ?_
                        refine wk_reg (id := 22) ?_
                        refine wk_move rfl rfl ?_
                        refine wk_assign rfl rfl ?_
                        refine wk_assign rfl rfl ?_
                        refine wk_nil ?_
                        exact wk_ret2 (rj r0) rfl rfl rfl ⟨b0.toNat % 128 + b1.toNat % 128 * 2 ^ 7 + b2.toNat % 128 * 2 ^ 14 + b3.toNat % 128 * 2 ^ 21 + b4.toNat * 2 ^ 28, 5, rfl, by simp only [UvAns, rUvL, g0, g1, g2, g3, g4, if_true, if_false]; exact ⟨by omega, 5, rfl, by decide, by simp, rfl⟩, rfl⟩
                      · have u4 : IntKind.u32.wrap (b4.toNat : Int) = ((b4.toNat : Nat) : Int) := u32n _ (by omega)
                        have s4 : IntKind.u32.wrap ((b4.toNat : Int) * 2 ^ 28) = IntKind.u32.wrap ((b4.toNat : Int) * 2 ^ 28) := rfl
                        have y4 : cmp .leq (b4.toNat : Int) 15 = some false := by simp [cmp]; omega
                        refine wk_skip ?_
                        refine wk_seq ?_
                        refine wk_reg (id := 20) ?_
                        refine wk_move rfl rfl ?_
                        refine wk_move rfl rfl ?_
                        refine wk_idxB 4 byteT rfl rfl (by with_reducible assumption) rfl ?_
                        refine wk_load rfl Tryd.underlying5 rfl (by with_reducible assumption) rfl ?_
                        refine wk_convV rfl Tryd.underlying5 Tryd.underlying64 (by with_reducible assumption) rfl ?_
                        refine wk_shl 28 rfl rfl rfl (by with_reducible assumption) rfl ?_
                        refine wk_or rfl rfl rfl ?_
                        refine wk_assign rfl rfl ?_
                        refine wk_nil ?_
                        refine wk_seq ?_
                        refine wk_seq ?_
                        refine wk_reg (id := 21) ?_
                        refine wk_move rfl rfl ?_
                        refine wk_idxB 4 byteT rfl rfl (by with_reducible assumption) rfl ?_
                        refine wk_load rfl Tryd.underlying5 rfl (by with_reducible assumption) rfl ?_
                        refine wk_cmp rfl rfl (by with_reducible assumption) rfl ?_
                        refine wk_nil ?_
                        refine wk_condF rfl ?_
                        refine wk_skip ?_
                        refine wk_seq ?_
                        refine wk_reg (id := 23) ?_
                        refine wk_assign rfl rfl ?_
                        refine wk_nil ?_
                        refine wk_seq ?_
                        refine wk_label ?_
                        refine wk_seq ?_
                        refine wk_reg (id := 24) ?_
                        refine wk_move rfl rfl ?_
                        refine wk_assign rfl rfl ?_
                        refine wk_assign rfl rfl ?_
                        refine wk_nil ?_
                        exact wk_ret2 (rj r0) rfl rfl rfl ⟨0, -5, rfl, by simp only [UvAns, rUvL, g0, g1, g2, g3, g4, if_false]; decide, rfl⟩
end Go.Proofs.YtbcfmhgcpijfnaaDoor
