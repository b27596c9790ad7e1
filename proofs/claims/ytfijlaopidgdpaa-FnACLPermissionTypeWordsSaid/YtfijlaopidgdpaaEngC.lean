/-
  Arithmetic that the contracts of reading and writing want; what kinds say of values.
-/
import Derived.Test.YtfijlaopidgdpaaEngS
import Derived.Lib.AppendStr
import Derived.Maps.AppendAt
namespace Go.Proofs.Eng
open Go Go.RowKit

theorem be_mod (k : Nat) (n : Int) (m : Int) (h : n % (256 ^ k : Int) = m % (256 ^ k : Int)) : be k n = be k m := by
  have key : ∀ (j : Nat), j ≤ k → be j n = be j m := by
    intro j
    induction j with
    | zero => intro _; rfl
    | succ j ih =>
      intro hj
      simp only [be]
      rw [ih (by omega)]
      congr 3
      have e1 : ∀ z : Int, (z / 256 ^ j) % 256 = ((z % 256 ^ k) / 256 ^ j) % 256 := by
        intro z
        have hp : (256 : Int) ^ k = 256 ^ j * (256 * 256 ^ (k - j - 1)) := by
          rw [← Int.mul_assoc, ← Int.pow_succ, ← Int.pow_add]
          congr 1
          omega
        have hne : (256 : Int) ^ j ≠ 0 := Int.pow_ne_zero (by omega)
        conv => lhs; rw [← Int.emod_add_mul_ediv z (256 ^ k)]
        rw [hp, Int.mul_assoc, Int.add_mul_ediv_left _ _ hne, Int.mul_assoc, Int.add_mul_emod_self_left]
      rw [e1 n, e1 m, h]
  exact key k (Nat.le_refl k)
theorem wrap_mod (k : IntKind) (n : Int) : k.wrap n % (2 ^ k.bits : Int) = n % (2 ^ k.bits : Int) := by
  simp only [IntKind.wrap]
  split
  · rw [Int.sub_emod, Int.emod_self, Int.sub_zero, Int.emod_emod, Int.emod_emod]
  · rw [Int.emod_emod]
theorem be1_wrap (n : Int) (k : IntKind) (hk : k.bits = 8) : be 1 (k.wrap n) = be 1 n := be_mod 1 _ _ (by have := wrap_mod k n; rw [hk] at this; exact this)
theorem be2_wrap (n : Int) (k : IntKind) (hk : k.bits = 16) : be 2 (k.wrap n) = be 2 n := be_mod 2 _ _ (by have := wrap_mod k n; rw [hk] at this; exact this)
theorem be4_wrap (n : Int) (k : IntKind) (hk : k.bits = 32) : be 4 (k.wrap n) = be 4 n := be_mod 4 _ _ (by have := wrap_mod k n; rw [hk] at this; exact this)
theorem be8_wrap (n : Int) (k : IntKind) (hk : k.bits = 64) : be 8 (k.wrap n) = be 8 n := be_mod 8 _ _ (by have := wrap_mod k n; rw [hk] at this; exact this)
theorem u8_eq {a b : Int} (h : a % 256 = b % 256) : Value.int .u8 (IntKind.u8.wrap a) = bv (UInt8.ofNat (b % 256).toNat) := by
  rw [← h]; exact bv_wrap a

/-! ## counts -/
def uvl (n : Nat) : Nat := if n < 128 then 1 else if n < 16384 then 2 else if n < 2097152 then 3 else if n < 268435456 then 4 else 5

theorem u32_nat (n : Nat) (h : n < 4294967296) : IntKind.u32.wrap (n : Int) = n := by
  simp only [IntKind.wrap, IntKind.bits, IntKind.signed]
  simp
  omega
theorem and127 (n : Nat) (hn : n < 4294967296) : IntKind.u32.wrap ((BitVec.ofInt 32 (n : Int) &&& BitVec.ofInt 32 127).toNat) = ((n % 128 : Nat) : Int) := by
  have h : (BitVec.ofInt 32 (n : Int) &&& BitVec.ofInt 32 127).toNat = n % 128 := by
    rw [BitVec.toNat_and]
    have h1 : (BitVec.ofInt 32 (n : Int)).toNat = n := by rw [BitVec.ofInt_natCast, BitVec.toNat_ofNat]; exact Nat.mod_eq_of_lt hn
    have h2 : (BitVec.ofInt 32 127).toNat = 2 ^ 7 - 1 := rfl
    rw [h1, h2, Nat.and_two_pow_sub_one_eq_mod]
  rw [h]
  exact u32_nat _ (by omega)
theorem or128 (n : Nat) (hn : n < 128) : IntKind.u32.wrap ((BitVec.ofInt 32 (n : Int) ||| BitVec.ofInt 32 128).toNat) = ((n + 128 : Nat) : Int) := by
  have h : (BitVec.ofInt 32 (n : Int) ||| BitVec.ofInt 32 128).toNat = n + 128 := by
    rw [BitVec.toNat_or]
    have h1 : (BitVec.ofInt 32 (n : Int)).toNat = n := by rw [BitVec.ofInt_natCast, BitVec.toNat_ofNat]; exact Nat.mod_eq_of_lt (by omega)
    have h2 : (BitVec.ofInt 32 128).toNat = 2 ^ 7 := rfl
    rw [h1, h2, Nat.or_comm]
    have := Nat.two_pow_add_eq_or_of_lt (i := 7) (b := n) (by omega) 1
    simp only [Nat.mul_one] at this
    omega
  rw [h]
  exact u32_nat _ (by omega)
/-- A group of seven bits that is not the last one. -/
theorem grp (n : Nat) (hn : n < 4294967296) :
    Value.int .u8 (IntKind.u8.wrap (IntKind.u32.wrap ((BitVec.ofInt 32 (IntKind.u32.wrap ((BitVec.ofInt 32 (n : Int) &&& BitVec.ofInt 32 127).toNat)) ||| BitVec.ofInt 32 128).toNat))) = bv (UInt8.ofNat (n % 128 + 128)) := by
  rw [and127 n hn, or128 _ (by omega)]
  refine (u8_eq (b := ((n % 128 + 128 : Nat) : Int)) rfl).trans ?_
  congr 2
  omega
theorem lastg (n : Nat) (hn : n < 128) : Value.int .u8 (IntKind.u8.wrap (n : Int)) = bv (UInt8.ofNat n) := by
  refine (u8_eq (b := (n : Int)) rfl).trans ?_
  congr 2
  omega
theorem lastg5 (n : Nat) (hn : n < 256) : Value.int .u8 (IntKind.u8.wrap (n : Int)) = bv (UInt8.ofNat n) := by
  refine (u8_eq (b := (n : Int)) rfl).trans ?_
  congr 2
  omega
theorem fdiv_nat (n k : Nat) : (n : Int).fdiv ((2 : Int) ^ k) = ((n / 2 ^ k : Nat) : Int) := by
  rw [Int.fdiv_eq_ediv_of_nonneg _ (by have : (0:Int) ≤ 2 ^ k := Int.pow_nonneg (by omega); exact this)]
  simp

/-! ## values of a kind -/
theorem okP_one {p : WPrim} {ks : List K} (h : okP p ks = true) (hp : isU p = false) : ∃ kk, ks = [kk] ∧ okP p [kk] = true := by
  unfold okP at h
  split at h <;> first | exact ⟨_, rfl, rfl⟩ | (simp [isU] at hp; done) | cases h
theorem rep_one {w : World} {X : Nat → Prop} {p : WPrim} (hp : isU p = false) {v : Value} {ks : List K} {cs : List CV} (hr : RepV w X (isU p) v cs) (hk : okP p ks = true) (hc : ConfL ks cs) :
    ∃ kk c, okP p [kk] = true ∧ cs = [c] ∧ Conf kk c ∧ Rep w X v c := by
  obtain ⟨kk, rfl, hk⟩ := okP_one hk hp
  rw [hp] at hr
  obtain ⟨c, rfl, hr⟩ := hr
  exact ⟨kk, c, hk, rfl, hc.2 0 c kk rfl rfl, hr⟩
theorem rep_int {w : World} {X : Nat → Prop} {p : WPrim} {k : IntKind} (hp : isU p = false) (hpk : ∀ kk, okP p [kk] = true → kk = .int k) {v : Value} {ks : List K} {cs : List CV} (hr : RepV w X (isU p) v cs) (hk : okP p ks = true) (hc : ConfL ks cs) :
    ∃ n, cs = [.int k n] ∧ v = .int k n ∧ k.wrap n = n := by
  obtain ⟨kk, c, h1, rfl, h2, h3⟩ := rep_one hp hr hk hc
  rw [hpk kk h1] at h2
  obtain ⟨n, rfl, hn⟩ := h2.int_inv
  exact ⟨n, rfl, h3.int_inv, hn⟩
theorem rep_str {w : World} {X : Nat → Prop} {p : WPrim} (hp : isU p = false) (hpk : ∀ kk, okP p [kk] = true → kk = .str) {v : Value} {ks : List K} {cs : List CV} (hr : RepV w X (isU p) v cs) (hk : okP p ks = true) (hc : ConfL ks cs) :
    ∃ s : ByteArray, cs = [.str s.data.toList] ∧ v = .string s := by
  obtain ⟨kk, c, h1, rfl, h2, h3⟩ := rep_one hp hr hk hc
  rw [hpk kk h1] at h2
  cases h2
  cases h3
  exact ⟨_, rfl, rfl⟩
theorem rep_pstr {w : World} {X : Nat → Prop} {p : WPrim} (hp : isU p = false) (hpk : ∀ kk, okP p [kk] = true → kk = .pstr) {v : Value} {ks : List K} {cs : List CV} (hr : RepV w X (isU p) v cs) (hk : okP p ks = true) (hc : ConfL ks cs) :
    (cs = [.pstr none] ∧ v = .pointer none) ∨ ∃ (b : Nat) (s : ByteArray) (t : TypeId), cs = [.pstr (some s.data.toList)] ∧ v = .pointer (some ⟨b, 0, none⟩) ∧ ¬ X b ∧ w.heap[b]? = some (.cells #[.string s] t (0, 0)) := by
  obtain ⟨kk, c, h1, rfl, h2, h3⟩ := rep_one hp hr hk hc
  rw [hpk kk h1] at h2
  cases h2
  cases h3 with
  | pnil => exact .inl ⟨rfl, rfl⟩
  | pstr b s t hb h => exact .inr ⟨b, s, t, rfl, rfl, hb, h⟩
theorem rep_bytes {w : World} {X : Nat → Prop} {p : WPrim} (hp : isU p = false) (hpk : ∀ kk, okP p [kk] = true → kk = .bytes) {v : Value} {ks : List K} {cs : List CV} (hr : RepV w X (isU p) v cs) (hk : okP p ks = true) (hc : ConfL ks cs) :
    (cs = [.bytes none] ∧ v = .slice none 0 0) ∨ ∃ bs, cs = [.bytes (some bs)] ∧ BytesRep w X v bs := by
  obtain ⟨kk, c, h1, rfl, h2, h3⟩ := rep_one hp hr hk hc
  rw [hpk kk h1] at h2
  cases h2
  cases h3 with
  | bnil => exact .inl ⟨rfl, rfl⟩
  | bytes v bs h => exact .inr ⟨bs, rfl, h⟩

/-! ## appending, once more -/
/-- Behind an append of bytes that were just laid in a new block. -/
theorem app_new {P : Program} {t e : TypeId} (hB : ByteT P t e) {w : World} {base : Nat} {d v : Value} {bs xs : List UInt8} {cur : Array Value} (hown : Own w base e d bs) (hb : base ≤ w.heap.size) (hl : bs.length + xs.length ≤ lim) (hc : cur.toList = xs.map bv)
    {n : Nat} (hn : xs.length = n) (hv : v = .slice (some ⟨w.heap.size, 0, none⟩) n n) {x y : Operand} (ρ : Operand → Value) (o : Oper) (ho : o.op = .call ⟨.builtin .append, #[x, y], #[t, t]⟩) (hx : ρ x = d) (hy : ρ y = v) :
    ∃ d' w', (execOp ρ o).run P (w.alloc (.cells cur e)) = .ok (.value d') w' ∧ Own w' base e d' (bs ++ xs) ∧ Below base (w.alloc (.cells cur e)) w' := by
  subst hn
  have hown' := hown.below ((Below.refl w.heap.size w).alloc (Nat.le_refl _) (.cells cur e))
  have hb' : base ≤ (w.alloc (.cells cur e)).heap.size := by simp; omega
  obtain ⟨d', w', h1, h2, h3⟩ := run_append_cells hB ho hx (hy.trans hv) hown' (cells_of_block (heap_alloc_new w _) hc) hb' hl
  exact ⟨d', w', h1, h2, below_of_grown hown' hb' h3⟩
theorem below_new {w w' : World} {base : Nat} {o : Obj} (hb : base ≤ w.heap.size) (h : Below base (w.alloc o) w') : Below base w w' := ((Below.refl base w).alloc hb o).trans h
theorem app_str {P : Program} {t e u : TypeId} (hB : ByteT P t e) (hu : P.underlying u = some .string) {w : World} {base : Nat} {d : Value} {bs : List UInt8} {s : ByteArray} (hown : Own w base e d bs) (hb : base ≤ w.heap.size) (hl : bs.length + s.data.toList.length ≤ lim)
    {x y : Operand} (ρ : Operand → Value) (o : Oper) (ho : o.op = .call ⟨.builtin .append, #[x, y], #[t, u]⟩) (hx : ρ x = d) (hy : ρ y = .string s) :
    ∃ d' w', (execOp ρ o).run P w = .ok (.value d') w' ∧ Own w' base e d' (bs ++ s.data.toList) ∧ Below base w w' := by
  obtain ⟨i, hi, hz, hs, hby⟩ := hB.info
  rw [lim_eq] at hl
  have hss : s.data.toList.length = s.size := by rw [Array.length_toList]; rfl
  obtain ⟨d', w', h1, h2, h3, _⟩ := Lib.run_append_own_string (P := P) w base t u o.type e i hB.sl hu hi hz hs hby d bs.length (bs.map bv) hown s (by unfold maxLen; omega) (by omega) hb
  refine ⟨d', w', ?_, ?_, below_of_grown hown hb h3⟩
  · simp [execOp, ho, resolve, invoke, builtin, hx, hy, h1]
  · unfold Own
    rw [List.length_append, List.map_append, hss]
    exact h2
theorem app_rep {P : Program} {t e : TypeId} (hB : ByteT P t e) {w : World} {base : Nat} {X : Nat → Prop} {d v : Value} {bs xs : List UInt8} (hv : BytesRep0 w X v xs) (hown : Own w base e d bs) (hb : base ≤ w.heap.size) (hl : bs.length + xs.length ≤ lim)
    {x y : Operand} (ρ : Operand → Value) (o : Oper) (ho : o.op = .call ⟨.builtin .append, #[x, y], #[t, t]⟩) (hx : ρ x = d) (hy : ρ y = v) :
    ∃ d' w', (execOp ρ o).run P w = .ok (.value d') w' ∧ Own w' base e d' (bs ++ xs) ∧ Below base w w' := by
  obtain ⟨d', w', h1, h2, h3⟩ := run_append_rep hB ho hx hy hv hown hb hl
  exact ⟨d', w', h1, h2, below_of_grown hown hb h3⟩
end Go.Proofs.Eng
