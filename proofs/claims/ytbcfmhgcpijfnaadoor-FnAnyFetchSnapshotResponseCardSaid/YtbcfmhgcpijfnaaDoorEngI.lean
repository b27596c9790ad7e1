/-
  Operations that readers want: bytes by place, shifts, texts made of bytes, labels.
-/
import Derived.Test.YtbcfmhgcpijfnaaDoorEngH
import Derived.Laws.IdiomStrings
import Derived.Laws.BytesArg
import Derived.ScopeJumps
set_option linter.unusedVariables false
set_option linter.unusedSimpArgs false
namespace Go.Proofs.Eng
open Go Go.RowKit
attribute [local semireducible] wk wkD

section
variable {P : Program} {ρ : Operand → Value} {w : World} {o : Oper} {x y z : Operand} {t t' : TypeId}
theorem run_shl {k k' : IntKind} {n : Int} {s : Nat} (ho : o.op = .binOp .shl t x y t') (hx : ρ x = .int k n) (hy : ρ y = .int k' (s : Int)) (hs : Nat.ble s k.bits = true) :
    (execOp ρ o).run P w = .ok (.value (.int k (k.wrap (n * 2 ^ s)))) w := by
  have h := Nat.le_of_ble_eq_true hs
  have hn : ¬ (s : Int) < 0 := by omega
  simp [execOp, ho, hx, hy, eqGuard, binOp, Op.shift, Nat.min_eq_left h, hn]
theorem run_idxB {e b off n c : Nat} {kk : IntKind} {j : Nat} (hB : ByteT P t e) (ho : o.op = .indexAddr t x y) (hx : ρ x = .slice (some ⟨b, off, none⟩) n c) (hy : ρ y = .int kk (j : Int)) (hj : j < n) :
    (execOp ρ o).run P w = .ok (.value (.pointer (some ⟨b, off + j, none⟩))) w := by
  obtain ⟨i, hi, _, hs, _⟩ := hB.info
  have := run_indexAddr (P := P) (w := w) (i := i) ho hB.sl hi hx kk hy hj
  rwa [hs, Nat.mul_one] at this
theorem run_extract {vs : Array Value} {i : Nat} {v : Value} (ho : o.op = .extract x i) (hx : ρ x = .tuple vs) (hv : vs[i]? = some v) : (execOp ρ o).run P w = .ok (.value v) w := by
  simp [execOp, ho, hx, Instr.extract, hv]
/-- A text of a slice of bytes. -/
theorem run_bstr {X : Nat → Prop} {v : Value} {e : TypeId} {s : Option (List UInt8)} (ho : o.op = .convert t t' x) (ht : P.underlying t = some (.slice e)) (he : P.underlying e = some (.int .u8)) (ht' : P.underlying t' = some .string) (hx : ρ x = v) (hs : SrcRep w X v s) :
    ∃ b : ByteArray, (execOp ρ o).run P w = .ok (.value (.string b)) w ∧ b.data.toList = orNil s := by
  cases s with
  | none =>
    obtain rfl : v = .slice none 0 0 := hs
    refine ⟨.empty, ?_, rfl⟩
    have := run_convert_bytes_nil (P := P) w t e ht he 0 0 t' ht'
    simp [execOp, ho, hx, this]
  | some l =>
    obtain ⟨b, off, n, c, rfl, _, _, hl, _, hc⟩ := hs
    subst hl
    refine ⟨⟨l.toArray⟩, ?_, by simp [orNil]⟩
    have := run_convert_bytes_back (P := P) w t t' e ⟨b, off, none⟩ c l ht he ht' (fun j hj => by rw [add_addr]; exact hc j _ (List.getElem?_eq_getElem hj))
    simp [execOp, ho, hx, this]
end
section
variable {P : Program} {Q : Exit → Act → World → Prop} {nT : Nat} {σ : Sv} {k : List TD} {w : World} {all : Array Oper} {l : List Oper} {ty : TypeId} {ps : String} {af : Array Edge} {d : Nat} {x y z : Operand} {t t' : TypeId}
theorem wk_shl {kk kk' : IntKind} {n m : Int} (s : Nat) (hx : evs σ x = some (.int kk n)) (hy : evs σ y = some (.int kk' (s : Int))) (hs : Nat.ble s kk.bits = true) (hv : kk.wrap (n * 2 ^ s) = m) (hd : Nat.blt d nT = true) (h : wk P Q nT ((d, .int kk m) :: σ) (.ops all l :: k) w) :
    wk P Q nT σ (.ops all (⟨some d, .binOp .shl t x y t', ty, ps, af, none⟩ :: l) :: k) w :=
  wk_val (fun _ ha => by rw [run_shl rfl (ha.ev hx) (ha.ev hy) hs, hv]) hd h
theorem wk_andV {kk : IntKind} {n m r : Int} (hx : evs σ x = some (.int kk n)) (hy : evs σ y = some (.int kk m)) (hv : kk.wrap ((BitVec.ofInt kk.bits n &&& BitVec.ofInt kk.bits m).toNat) = r) (hd : Nat.blt d nT = true) (h : wk P Q nT ((d, .int kk r) :: σ) (.ops all l :: k) w) :
    wk P Q nT σ (.ops all (⟨some d, .binOp .and t x y t', ty, ps, af, none⟩ :: l) :: k) w := by subst hv; exact wk_and hx hy hd h
theorem wk_orV {kk : IntKind} {n m r : Int} (hx : evs σ x = some (.int kk n)) (hy : evs σ y = some (.int kk m)) (hv : kk.wrap ((BitVec.ofInt kk.bits n ||| BitVec.ofInt kk.bits m).toNat) = r) (hd : Nat.blt d nT = true) (h : wk P Q nT ((d, .int kk r) :: σ) (.ops all l :: k) w) :
    wk P Q nT σ (.ops all (⟨some d, .binOp .or t x y t', ty, ps, af, none⟩ :: l) :: k) w := by subst hv; exact wk_or hx hy hd h
theorem wk_convV {kk k1 k2 : IntKind} {n r : Int} (hx : evs σ x = some (.int kk n)) (hs : P.underlying t = some (.int k1)) (ht : P.underlying t' = some (.int k2)) (hv : k2.wrap n = r) (hd : Nat.blt d nT = true) (h : wk P Q nT ((d, .int k2 r) :: σ) (.ops all l :: k) w) :
    wk P Q nT σ (.ops all (⟨some d, .convert t t' x, ty, ps, af, none⟩ :: l) :: k) w := by subst hv; exact wk_conv hx hs ht hd h
theorem wk_subV {kk : IntKind} {n m r : Int} (hx : evs σ x = some (.int kk n)) (hy : evs σ y = some (.int kk m)) (hv : kk.wrap (n - m) = r) (hd : Nat.blt d nT = true) (h : wk P Q nT ((d, .int kk r) :: σ) (.ops all l :: k) w) :
    wk P Q nT σ (.ops all (⟨some d, .binOp .sub t x y t', ty, ps, af, none⟩ :: l) :: k) w := by subst hv; exact wk_sub hx hy hd h
theorem wk_idxB {e b off n c : Nat} {kk : IntKind} (j : Nat) (hB : ByteT P t e) (hx : evs σ x = some (.slice (some ⟨b, off, none⟩) n c)) (hy : evs σ y = some (.int kk (j : Int))) (hj : j < n) (hd : Nat.blt d nT = true)
    (h : wk P Q nT ((d, .pointer (some ⟨b, off + j, none⟩)) :: σ) (.ops all l :: k) w) : wk P Q nT σ (.ops all (⟨some d, .indexAddr t x y, ty, ps, af, none⟩ :: l) :: k) w :=
  wk_val (fun _ ha => run_idxB hB rfl (ha.ev hx) (ha.ev hy) hj) hd h
theorem wk_extract {vs : Array Value} {i : Nat} {v : Value} (hx : evs σ x = some (.tuple vs)) (hv : vs[i]? = some v) (hd : Nat.blt d nT = true) (h : wk P Q nT ((d, v) :: σ) (.ops all l :: k) w) :
    wk P Q nT σ (.ops all (⟨some d, .extract x i, ty, ps, af, none⟩ :: l) :: k) w := wk_val (fun _ ha => run_extract rfl (ha.ev hx) hv) hd h
theorem wk_bstr {X : Nat → Prop} {v : Value} {e : TypeId} {s : Option (List UInt8)} (hx : evs σ x = some v) (ht : P.underlying t = some (.slice e)) (he : P.underlying e = some (.int .u8)) (ht' : P.underlying t' = some .string) (hs : SrcRep w X v s) (hd : Nat.blt d nT = true)
    (h : ∀ b : ByteArray, b.data.toList = orNil s → wk P Q nT ((d, .string b) :: σ) (.ops all l :: k) w) : wk P Q nT σ (.ops all (⟨some d, .convert t t' x, ty, ps, af, none⟩ :: l) :: k) w := by
  intro a ha
  obtain ⟨b, h1, h2⟩ := run_bstr (P := P) (ρ := a.eval) (o := ⟨some d, .convert t t' x, ty, ps, af, none⟩) rfl ht he ht' (ha.ev hx) hs
  exact wpT_value rfl h1 (h b h2 _ (ha.put hd _))
/-- A scope, left by a jump ahead. -/
theorem wk_scope {c rest : Code} (lb : Nat) (J : Act → World → Prop) (hf : findLabel c lb = some rest) (first : wk P (Exit.jump lb J (Exit.then (wpT P Q k) Q)) nT σ [.code c] w)
    (pass : ∀ a w, J a w → wpT P (Exit.jump lb (fun _ _ => False) (Exit.then (wpT P Q k) Q)) [.code rest] a w) : wk P Q nT σ (.code (.scope c) :: k) w := by
  intro a ha
  refine wp_scope_jumps lb J (fun _ _ => 0) hf (wpT_one (first a ha)) ?_
  intro a' w' hJ
  refine wp_mono (wpT_one (pass a' w' hJ)) ?_
  intro e a2 w2 q
  cases e <;> first | exact q | exact q.2.elim
theorem wk_scopeK {c rest : Code} (lb : Nat) (σJ : Sv) (C : Prop) (hf : findLabel c lb = some rest) (first : wk P (Exit.jump lb (fun a w' => w' = w ∧ C ∧ Knows nT σJ a) (Exit.then (wpT P Q k) Q)) nT σ [.code c] w)
    (pass : C → wk P (Exit.jump lb (fun _ _ => False) (Exit.then (wpT P Q k) Q)) nT σJ [.code rest] w) : wk P Q nT σ (.code (.scope c) :: k) w := by
  refine wk_scope lb _ hf first ?_
  rintro a w' ⟨rfl, hC, hk⟩
  exact pass hC a hk
theorem rj {A Q : Exit → Act → World → Prop} {J K : Act → World → Prop} {lb : Nat} (h : ∀ a w, A .ret a w → Q .ret a w) : ∀ a w, A .ret a w → Exit.jump lb J (Exit.then K Q) .ret a w := h
theorem wk_goto {lb : Nat} {J : Act → World → Prop} {k2 : List TD} {Q' : Exit → Act → World → Prop} (h : ∀ a, Knows nT σ a → J a w) : wk P (Exit.jump lb J Q') nT σ (.code (.goto lb) :: k2) w :=
  fun a ha => wp_goto ⟨rfl, h a ha⟩
theorem wk_label {lb : Nat} (h : wk P Q nT σ k w) : wk P Q nT σ (.code (.label lb) :: k) w := fun a ha => wp_label (h a ha)
end
section
variable {P : Program} {Q : Exit → Act → World → Prop} {nT : Nat} {σ : Sv} {k : List TD} {w : World} {all : List Oper} {ty : TypeId} {ps : String} {af : Array Edge} {d : Nat} {x y z : Operand} {t t' : TypeId} {S : World → Prop} {i : Nat} {ord : List (Nat × Bool)} {ol : List Oper} {g : Option (Nat × Bool)}
theorem wd_shl {kk kk' : IntKind} {n m : Int} (s : Nat) (hg : guardIs σ all g = some true) (hx : evs σ x = some (.int kk n)) (hy : evs σ y = some (.int kk' (s : Int))) (hs : Nat.ble s kk.bits = true) (hv : kk.wrap (n * 2 ^ s) = m) (hd : Nat.blt d nT = true) (h : wkD P Q nT all S ((d, .int kk m) :: σ) k ord ol w) :
    wkD P Q nT all S σ k ((i, true) :: ord) (⟨some d, .binOp .shl t x y t', ty, ps, af, g⟩ :: ol) w :=
  wd_val hg (fun _ ha _ _ => by rw [run_shl rfl (ha.ev hx) (ha.ev hy) hs, hv]) hd h
theorem wd_orV {kk : IntKind} {n m r : Int} (hg : guardIs σ all g = some true) (hx : evs σ x = some (.int kk n)) (hy : evs σ y = some (.int kk m)) (hv : kk.wrap ((BitVec.ofInt kk.bits n ||| BitVec.ofInt kk.bits m).toNat) = r) (hd : Nat.blt d nT = true) (h : wkD P Q nT all S ((d, .int kk r) :: σ) k ord ol w) :
    wkD P Q nT all S σ k ((i, true) :: ord) (⟨some d, .binOp .or t x y t', ty, ps, af, g⟩ :: ol) w :=
  wd_val hg (fun _ ha _ _ => by rw [run_or rfl (ha.ev hx) (ha.ev hy), hv]) hd h
theorem wd_convV {kk k1 k2 : IntKind} {n r : Int} (hg : guardIs σ all g = some true) (hx : evs σ x = some (.int kk n)) (hs : P.underlying t = some (.int k1)) (ht : P.underlying t' = some (.int k2)) (hv : k2.wrap n = r) (hd : Nat.blt d nT = true) (h : wkD P Q nT all S ((d, .int k2 r) :: σ) k ord ol w) :
    wkD P Q nT all S σ k ((i, true) :: ord) (⟨some d, .convert t t' x, ty, ps, af, g⟩ :: ol) w :=
  wd_val hg (fun _ ha _ _ => by rw [run_convert rfl hs ht (ha.ev hx), hv]) hd h
theorem wd_nilCheck {ad : Addr} (hg : guardIs σ all g = some true) (hx : evs σ x = some (.pointer (some ad))) (hd : Nat.blt d nT = true) (h : wkD P Q nT all S ((d, .pointer (some ad)) :: σ) k ord ol w) :
    wkD P Q nT all S σ k ((i, true) :: ord) (⟨some d, .nilCheck x, ty, ps, af, g⟩ :: ol) w := wd_val hg (fun _ ha _ _ => run_nilCheck _ _ rfl (ha.ev hx)) hd h
theorem wd_nilCheck1 {ad : Addr} (hS : S w) (hg : guardIs σ all g = some true) (hx : evs σ x = some (.pointer (some ad))) (hd : Nat.blt d nT = true) (h : wkD P Q nT all S ((d, .pointer (some ad)) :: σ) k ord ol w) :
    wkD P Q nT all S σ k ((i, false) :: ord) (⟨some d, .nilCheck x, ty, ps, af, g⟩ :: ol) w := wd_one hg (fun _ ha => run_nilCheck _ _ rfl (ha.ev hx)) hd hS h
theorem wd_idxB {e b off n c : Nat} {kk : IntKind} (j : Nat) (hB : ByteT P t e) (hg : guardIs σ all g = some true) (hx : evs σ x = some (.slice (some ⟨b, off, none⟩) n c)) (hy : evs σ y = some (.int kk (j : Int))) (hj : j < n) (hd : Nat.blt d nT = true)
    (h : wkD P Q nT all S ((d, .pointer (some ⟨b, off + j, none⟩)) :: σ) k ord ol w) : wkD P Q nT all S σ k ((i, true) :: ord) (⟨some d, .indexAddr t x y, ty, ps, af, g⟩ :: ol) w :=
  wd_val hg (fun _ ha _ _ => run_idxB hB rfl (ha.ev hx) (ha.ev hy) hj) hd h
end
/-! ## numbers -/
theorem u8and7 (n : Nat) (h : n < 256) : IntKind.u8.wrap ((BitVec.ofInt IntKind.u8.bits (n : Int) &&& BitVec.ofInt IntKind.u8.bits 127).toNat) = ((n % 128 : Nat) : Int) := by
  have e : (BitVec.ofInt 8 (n : Int) &&& BitVec.ofInt 8 127).toNat = n % 128 := by
    rw [BitVec.toNat_and]
    have h1 : (BitVec.ofInt 8 (n : Int)).toNat = n := by simp [BitVec.toNat_ofInt]; omega
    have h2 : (BitVec.ofInt 8 127).toNat = 2 ^ 7 - 1 := by decide
    rw [h1, h2, Nat.and_two_pow_sub_one_eq_mod]
  show IntKind.u8.wrap ((BitVec.ofInt 8 (n : Int) &&& BitVec.ofInt 8 127).toNat) = _
  rw [e]
  simp [IntKind.wrap, IntKind.bits, IntKind.signed]
  omega
theorem u8and8 : ∀ n : Nat, n < 256 → IntKind.u8.wrap ((BitVec.ofInt IntKind.u8.bits (n : Int) &&& BitVec.ofInt IntKind.u8.bits 128).toNat) = if n < 128 then 0 else 128 := by
  decide +kernel
theorem u32n (n : Nat) (h : n < 4294967296) : IntKind.u32.wrap (n : Int) = n := u32_nat n h
theorem u32or (a b s : Nat) (ha : a < 2 ^ s) (h : a + b * 2 ^ s < 4294967296) : IntKind.u32.wrap ((BitVec.ofInt IntKind.u32.bits (a : Int) ||| BitVec.ofInt IntKind.u32.bits ((b * 2 ^ s : Nat) : Int)).toNat) = ((a + b * 2 ^ s : Nat) : Int) := by
  have e : (BitVec.ofInt 32 (a : Int) ||| BitVec.ofInt 32 ((b * 2 ^ s : Nat) : Int)).toNat = a + b * 2 ^ s := by
    rw [BitVec.toNat_or]
    have h1 : (BitVec.ofInt 32 (a : Int)).toNat = a := by rw [BitVec.toNat_ofInt]; have : ((a : Int) % ((2 ^ 32 : Nat) : Int)).toNat = a := by omega
                                                          exact this
    have h2 : (BitVec.ofInt 32 ((b * 2 ^ s : Nat) : Int)).toNat = b * 2 ^ s := by rw [BitVec.toNat_ofInt]; generalize b * 2 ^ s = q at h; omega
    rw [h1, h2, Nat.or_comm, Nat.mul_comm, ← Nat.two_pow_add_eq_or_of_lt ha, Nat.add_comm]
  show IntKind.u32.wrap ((BitVec.ofInt 32 (a : Int) ||| BitVec.ofInt 32 ((b * 2 ^ s : Nat) : Int)).toNat) = _
  rw [e]
  exact u32_nat _ h
theorem u32shl (b s : Nat) (h : b * 2 ^ s < 4294967296) : IntKind.u32.wrap ((b : Int) * 2 ^ s) = ((b * 2 ^ s : Nat) : Int) := by
  have : ((b : Int) * 2 ^ s) = ((b * 2 ^ s : Nat) : Int) := by simp
  rw [this]
  exact u32_nat _ h
end Go.Proofs.Eng
