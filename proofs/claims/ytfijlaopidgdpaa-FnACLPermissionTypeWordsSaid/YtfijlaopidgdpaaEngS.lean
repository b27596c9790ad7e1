/-
  Walking a function by hand: what is known of the slots is a list; one lemma an operation.
-/
import Derived.Test.YtfijlaopidgdpaaEngOps
namespace Go.Proofs.Eng
open Go Go.RowKit

abbrev Sv := List (Nat × Value)

def evs (σ : Sv) : Operand → Option Value
  | .tmp t => look σ t
  | .const v => some v
  | .global g => some (.pointer (some ⟨g, 0, none⟩))
  | .func f => some (.func (.func f) #[] #[])

def Knows (nT : Nat) (σ : Sv) (a : Act) : Prop := a.tmps.size = nT ∧ a.defers = [] ∧ ∀ t v, look σ t = some v → a.eval (.tmp t) = v

/-- Whatever the frame is, if it fits what is known. -/
def wk (P : Program) (Q : Exit → Act → World → Prop) (nT : Nat) (σ : Sv) (todo : List TD) (w : World) : Prop := ∀ a, Knows nT σ a → wpT P Q todo a w

theorem Knows.ev {nT : Nat} {σ : Sv} {a : Act} (h : Knows nT σ a) {x : Operand} {v : Value} (hx : evs σ x = some v) : a.eval x = v := by
  cases x with
  | tmp t => exact h.2.2 t v hx
  | const u => exact Option.some.inj hx
  | global g => exact Option.some.inj hx
  | func f => exact Option.some.inj hx
theorem Knows.put {nT : Nat} {σ : Sv} {a : Act} (h : Knows nT σ a) {d : Nat} (hd : Nat.blt d nT = true) (v : Value) : Knows nT ((d, v) :: σ) (a.put (some d) v) := by
  refine ⟨(put_size _ _ _).trans h.1, h.2.1, ?_⟩
  intro t u hu
  simp only [look] at hu
  split at hu
  · rename_i hb
    have := Nat.eq_of_beq_eq_true hb
    subst this
    cases hu
    exact eval_put_same _ _ _ (by rw [h.1]; simpa [Nat.blt_eq] using hd)
  · rename_i hb
    rw [eval_put_other _ _ _ _ (by intro e; subst e; simp at hb)]
    exact h.2.2 t u hu
theorem Knows.weak {nT : Nat} {σ σ' : Sv} {a : Act} (h : Knows nT σ a) (hs : ∀ t v, look σ' t = some v → look σ t = some v) : Knows nT σ' a := ⟨h.1, h.2.1, fun t v ht => h.2.2 t v (hs t v ht)⟩

section
variable {P : Program} {Q : Exit → Act → World → Prop} {nT : Nat} {σ : Sv} {k : List TD} {w : World} {all : Array Oper} {l : List Oper} {ty : TypeId} {ps : String} {af : Array Edge} {d : Nat} {x y z : Operand} {t t' : TypeId}

theorem wk_seq {p q : Code} (h : wk P Q nT σ (.code p :: .code q :: k) w) : wk P Q nT σ (.code (.seq p q) :: k) w := fun a ha => wpT_seq (h a ha)
theorem wk_reg {id : Nat} {l : List Oper} (h : wk P Q nT σ (.ops l.toArray l :: k) w) : wk P Q nT σ (.code (.region id l.toArray false) :: k) w := fun a ha => wpT_reg (h a ha)
theorem wk_skip (h : wk P Q nT σ k w) : wk P Q nT σ (.code .skip :: k) w := fun a ha => wpT_skip (h a ha)
theorem wk_nil (h : wk P Q nT σ k w) : wk P Q nT σ (.ops all [] :: k) w := fun a ha => wpT_ops_nil (h a ha)
theorem wk_cond {c : Operand} {p q : Code} {b : Bool} (hc : evs σ c = some (.bool b)) (ht : b = true → wk P Q nT σ (.code p :: k) w) (hf : b = false → wk P Q nT σ (.code q :: k) w) :
    wk P Q nT σ (.code (.cond c p q) :: k) w := by
  intro a ha
  refine wpT_cond (ha.ev hc) ?_
  cases b with
  | true => exact ht rfl a ha
  | false => exact hf rfl a ha
theorem wk_condT {c : Operand} {p q : Code} (hc : evs σ c = some (.bool true)) (h : wk P Q nT σ (.code p :: k) w) : wk P Q nT σ (.code (.cond c p q) :: k) w := fun a ha => wpT_cond (ha.ev hc) (h a ha)
theorem wk_condF {c : Operand} {p q : Code} (hc : evs σ c = some (.bool false)) (h : wk P Q nT σ (.code q :: k) w) : wk P Q nT σ (.code (.cond c p q) :: k) w := fun a ha => wpT_cond (ha.ev hc) (h a ha)

/-- An operation that yields a value. -/
theorem wk_val {op : Op} {v : Value} {w' : World} (hr : ∀ a, Knows nT σ a → (execOp a.eval ⟨some d, op, ty, ps, af, none⟩).run P w = .ok (.value v) w') (hd : Nat.blt d nT = true)
    (h : wk P Q nT ((d, v) :: σ) (.ops all l :: k) w') : wk P Q nT σ (.ops all (⟨some d, op, ty, ps, af, none⟩ :: l) :: k) w :=
  fun a ha => wpT_value rfl (hr a ha) (h _ (ha.put hd v))
theorem wk_unit {op : Op} {w' : World} (hr : ∀ a, Knows nT σ a → (execOp a.eval ⟨none, op, ty, ps, af, none⟩).run P w = .ok .skip w')
    (h : wk P Q nT σ (.ops all l :: k) w') : wk P Q nT σ (.ops all (⟨none, op, ty, ps, af, none⟩ :: l) :: k) w :=
  fun a ha => wpT_unit rfl (hr a ha) (h _ ha)

theorem wk_move {v : Value} (hx : evs σ x = some v) (hd : Nat.blt d nT = true) (h : wk P Q nT ((d, v) :: σ) (.ops all l :: k) w) : wk P Q nT σ (.ops all (⟨some d, .move x, ty, ps, af, none⟩ :: l) :: k) w :=
  wk_val (fun _ ha => by rw [run_move _ _ rfl, ha.ev hx]) hd h
theorem wk_assign {v : Value} (hx : evs σ x = some v) (hd : Nat.blt d nT = true) (h : wk P Q nT ((d, v) :: σ) (.ops all l :: k) w) : wk P Q nT σ (.ops all (⟨some d, .assign x, ty, ps, af, none⟩ :: l) :: k) w :=
  wk_val (fun _ ha => by rw [run_assign _ _ rfl, ha.ev hx]) hd h
theorem wk_pick {b : Bool} {u v : Value} (hc : evs σ z = some (.bool b)) (hx : evs σ x = some u) (hy : evs σ y = some v) (hd : Nat.blt d nT = true) (h : wk P Q nT ((d, if b then u else v) :: σ) (.ops all l :: k) w) :
    wk P Q nT σ (.ops all (⟨some d, .pick z x y, ty, ps, af, none⟩ :: l) :: k) w :=
  wk_val (fun _ ha => by rw [run_pick _ _ rfl (ha.ev hc), ha.ev hx, ha.ev hy]) hd h
theorem wk_not {b : Bool} (hx : evs σ x = some (.bool b)) (hd : Nat.blt d nT = true) (h : wk P Q nT ((d, .bool !b) :: σ) (.ops all l :: k) w) : wk P Q nT σ (.ops all (⟨some d, .unOp .not t x, ty, ps, af, none⟩ :: l) :: k) w :=
  wk_val (fun _ ha => run_not _ _ rfl (ha.ev hx)) hd h
theorem wk_shr {kk kk' : IntKind} {n s : Int} (hx : evs σ x = some (.int kk n)) (hy : evs σ y = some (.int kk' s)) (hs : 0 ≤ s) (hd : Nat.blt d nT = true) (h : wk P Q nT ((d, .int kk (n.fdiv (2 ^ (min s.toNat kk.bits)))) :: σ) (.ops all l :: k) w) :
    wk P Q nT σ (.ops all (⟨some d, .binOp .shr t x y t', ty, ps, af, none⟩ :: l) :: k) w :=
  wk_val (fun _ ha => run_shr rfl (ha.ev hx) (ha.ev hy) hs) hd h
theorem wk_add {kk : IntKind} {n m : Int} (hx : evs σ x = some (.int kk n)) (hy : evs σ y = some (.int kk m)) (hd : Nat.blt d nT = true) (h : wk P Q nT ((d, .int kk (kk.wrap (n + m))) :: σ) (.ops all l :: k) w) :
    wk P Q nT σ (.ops all (⟨some d, .binOp .add t x y t', ty, ps, af, none⟩ :: l) :: k) w := wk_val (fun _ ha => run_add rfl (ha.ev hx) (ha.ev hy)) hd h
theorem wk_sub {kk : IntKind} {n m : Int} (hx : evs σ x = some (.int kk n)) (hy : evs σ y = some (.int kk m)) (hd : Nat.blt d nT = true) (h : wk P Q nT ((d, .int kk (kk.wrap (n - m))) :: σ) (.ops all l :: k) w) :
    wk P Q nT σ (.ops all (⟨some d, .binOp .sub t x y t', ty, ps, af, none⟩ :: l) :: k) w := wk_val (fun _ ha => run_sub rfl (ha.ev hx) (ha.ev hy)) hd h
theorem wk_mul {kk : IntKind} {n m : Int} (hx : evs σ x = some (.int kk n)) (hy : evs σ y = some (.int kk m)) (hd : Nat.blt d nT = true) (h : wk P Q nT ((d, .int kk (kk.wrap (n * m))) :: σ) (.ops all l :: k) w) :
    wk P Q nT σ (.ops all (⟨some d, .binOp .mul t x y t', ty, ps, af, none⟩ :: l) :: k) w := wk_val (fun _ ha => run_mul rfl (ha.ev hx) (ha.ev hy)) hd h
theorem wk_and {kk : IntKind} {n m : Int} (hx : evs σ x = some (.int kk n)) (hy : evs σ y = some (.int kk m)) (hd : Nat.blt d nT = true)
    (h : wk P Q nT ((d, .int kk (kk.wrap ((BitVec.ofInt kk.bits n &&& BitVec.ofInt kk.bits m).toNat))) :: σ) (.ops all l :: k) w) :
    wk P Q nT σ (.ops all (⟨some d, .binOp .and t x y t', ty, ps, af, none⟩ :: l) :: k) w := wk_val (fun _ ha => run_and rfl (ha.ev hx) (ha.ev hy)) hd h
theorem wk_or {kk : IntKind} {n m : Int} (hx : evs σ x = some (.int kk n)) (hy : evs σ y = some (.int kk m)) (hd : Nat.blt d nT = true)
    (h : wk P Q nT ((d, .int kk (kk.wrap ((BitVec.ofInt kk.bits n ||| BitVec.ofInt kk.bits m).toNat))) :: σ) (.ops all l :: k) w) :
    wk P Q nT σ (.ops all (⟨some d, .binOp .or t x y t', ty, ps, af, none⟩ :: l) :: k) w := wk_val (fun _ ha => run_or rfl (ha.ev hx) (ha.ev hy)) hd h
theorem wk_cmp {op : BinOp} {kk : IntKind} {n m : Int} {b : Bool} (hx : evs σ x = some (.int kk n)) (hy : evs σ y = some (.int kk m)) (hc : cmp op n m = some b) (hd : Nat.blt d nT = true) (h : wk P Q nT ((d, .bool b) :: σ) (.ops all l :: k) w) :
    wk P Q nT σ (.ops all (⟨some d, .binOp op t x y t', ty, ps, af, none⟩ :: l) :: k) w := wk_val (fun _ ha => run_cmp rfl (ha.ev hx) (ha.ev hy) hc) hd h
theorem wk_conv {kk k1 k2 : IntKind} {n : Int} (hx : evs σ x = some (.int kk n)) (hs : P.underlying t = some (.int k1)) (ht : P.underlying t' = some (.int k2)) (hd : Nat.blt d nT = true)
    (h : wk P Q nT ((d, .int k2 (k2.wrap n)) :: σ) (.ops all l :: k) w) : wk P Q nT σ (.ops all (⟨some d, .convert t t' x, ty, ps, af, none⟩ :: l) :: k) w :=
  wk_val (fun _ ha => run_convert rfl hs ht (ha.ev hx)) hd h
theorem wk_slen {e : TypeId} {A : Option Addr} {n c : Nat} (hx : evs σ x = some (.slice A n c)) (ht : P.underlying t = some (.slice e)) (hd : Nat.blt d nT = true) (h : wk P Q nT ((d, .int .i64 n) :: σ) (.ops all l :: k) w) :
    wk P Q nT σ (.ops all (⟨some d, .call ⟨.builtin .len, #[x], #[t]⟩, ty, ps, af, none⟩ :: l) :: k) w := wk_val (fun _ ha => run_len rfl ht (ha.ev hx)) hd h
theorem wk_strlen {s : ByteArray} (hx : evs σ x = some (.string s)) (ht : P.underlying t = some .string) (hd : Nat.blt d nT = true) (h : wk P Q nT ((d, .int .i64 s.size) :: σ) (.ops all l :: k) w) :
    wk P Q nT σ (.ops all (⟨some d, .call ⟨.builtin .len, #[x], #[t]⟩, ty, ps, af, none⟩ :: l) :: k) w := wk_val (fun _ ha => run_strlen rfl ht (ha.ev hx)) hd h
theorem wk_eqnil {e : TypeId} {A : Option Addr} {n c : Nat} (hx : evs σ x = some (.slice A n c)) (hy : evs σ y = some (.slice none 0 0)) (ht : P.underlying t = some (.slice e)) (hd : Nat.blt d nT = true)
    (h : wk P Q nT ((d, .bool A.isNone) :: σ) (.ops all l :: k) w) : wk P Q nT σ (.ops all (⟨some d, .binOp .eql t x y t', ty, ps, af, none⟩ :: l) :: k) w :=
  wk_val (fun _ ha => run_eqlslice rfl (.inl rfl) ht (ha.ev hx) (ha.ev hy)) hd h
theorem wk_eqnilp {e : TypeId} {A : Option Addr} (hx : evs σ x = some (.pointer A)) (hy : evs σ y = some (.pointer none)) (ht : P.underlying t = some (.pointer e)) (hd : Nat.blt d nT = true)
    (h : wk P Q nT ((d, .bool A.isNone) :: σ) (.ops all l :: k) w) : wk P Q nT σ (.ops all (⟨some d, .binOp .eql t x y t', ty, ps, af, none⟩ :: l) :: k) w :=
  wk_val (fun _ ha => run_eqlnil_ptr rfl ht (ha.ev hx) (ha.ev hy)) hd h
theorem wk_nilCheck {ad : Addr} (hx : evs σ x = some (.pointer (some ad))) (hd : Nat.blt d nT = true) (h : wk P Q nT ((d, .pointer (some ad)) :: σ) (.ops all l :: k) w) :
    wk P Q nT σ (.ops all (⟨some d, .nilCheck x, ty, ps, af, none⟩ :: l) :: k) w := wk_val (fun _ ha => run_nilCheck _ _ rfl (ha.ev hx)) hd h
theorem wk_field {f b o : Nat} {fs : Array Field} {fd : Field} {i : TypeInfo} (hx : evs σ x = some (.pointer (some ⟨b, o, none⟩))) (hs : P.underlying t = some (.struct fs)) (hf : fs[f]? = some fd) (hi : P.info? fd.type = some i) (hz : i.size ≠ 0)
    (hd : Nat.blt d nT = true) (h : wk P Q nT ((d, .pointer (some ⟨b, o + fd.offset, none⟩)) :: σ) (.ops all l :: k) w) : wk P Q nT σ (.ops all (⟨some d, .fieldAddr t x f, ty, ps, af, none⟩ :: l) :: k) w :=
  wk_val (fun _ ha => by rw [run_fieldAddr _ _ rfl (ha.ev hx) hs hf hi hz, add_addr]) hd h
theorem wk_load {ad : Addr} {v : Value} {dd : TypeDesc} (hx : evs σ x = some (.pointer (some ad))) (hs : P.underlying t = some dd) (ha : aggB dd = false) (hv : w.cell? ad = some v) (hd : Nat.blt d nT = true)
    (h : wk P Q nT ((d, v) :: σ) (.ops all l :: k) w) : wk P Q nT σ (.ops all (⟨some d, .load t x, ty, ps, af, none⟩ :: l) :: k) w := wk_val (fun _ hk => run_load1 _ _ rfl (hk.ev hx) hs ha hv) hd h
theorem wk_loadA {ad : Addr} {vs : List Value} {dd : TypeDesc} {i : TypeInfo} (hx : evs σ x = some (.pointer (some ad))) (hs : P.underlying t = some dd) (ha : aggB dd = true) (hi : P.info? t = some i) (hn : i.size = vs.length)
    (hv : ∀ j v, vs[j]? = some v → w.cell? (ad.add j) = some v) (hd : Nat.blt d nT = true) (h : wk P Q nT ((d, .agg vs.toArray) :: σ) (.ops all l :: k) w) :
    wk P Q nT σ (.ops all (⟨some d, .load t x, ty, ps, af, none⟩ :: l) :: k) w := wk_val (fun _ hk => run_load_agg rfl (hk.ev hx) hs ha hi hn hv) hd h
theorem wk_box {v : Value} (hx : evs σ x = some v) (hd : Nat.blt d nT = true) (h : wk P Q nT ((d, .pointer (some ⟨w.heap.size, 0, none⟩)) :: σ) (.ops all l :: k) (w.alloc (.cells v.cells t))) :
    wk P Q nT σ (.ops all (⟨some d, .box t x, ty, ps, af, none⟩ :: l) :: k) w := wk_val (fun _ ha => by rw [run_box rfl, ha.ev hx]) hd h
theorem wk_alloc {i : TypeInfo} {v : Value} (hi : P.info? t = some i) (hz : i.zero = some v) (hd : Nat.blt d nT = true) (h : wk P Q nT ((d, .pointer (some ⟨w.heap.size, 0, none⟩)) :: σ) (.ops all l :: k) (w.alloc (.cells v.cells t))) :
    wk P Q nT σ (.ops all (⟨some d, .alloc t, ty, ps, af, none⟩ :: l) :: k) w := wk_val (fun _ _ => run_alloc1 rfl hi hz) hd h
theorem wk_idx {b off n c j : Nat} {e : TypeId} {i : TypeInfo} {kk : IntKind} (hx : evs σ x = some (.slice (some ⟨b, off, none⟩) n c)) (hy : evs σ y = some (.int kk j)) (hs : P.underlying t = some (.slice e)) (hi : P.info? e = some i) (hj : j < n)
    (hd : Nat.blt d nT = true) (h : wk P Q nT ((d, .pointer (some ⟨b, off + j * i.size, none⟩)) :: σ) (.ops all l :: k) w) : wk P Q nT σ (.ops all (⟨some d, .indexAddr t x y, ty, ps, af, none⟩ :: l) :: k) w :=
  wk_val (fun _ ha => run_indexAddr rfl hs hi (ha.ev hx) kk (ha.ev hy) hj) hd h

theorem wk_bs0 (hB : ByteT P t t')  (hd : Nat.blt d nT = true)
    (h : wk P Q nT ((d, .slice (some ⟨w.heap.size, 0, none⟩) 0 0) :: σ) (.ops all l :: k) (w.alloc (.cells #[] t'))) : wk P Q nT σ (.ops all (⟨some d, .buildSlice t 0 #[], ty, ps, af, none⟩ :: l) :: k) w :=
  wk_val (fun _ _ => run_bs0 hB rfl) hd h
theorem wk_bs1 (hB : ByteT P t t') {x0 : Operand} {v0 : Int} (h0 : evs σ x0 = some (.int .u8 v0)) (hd : Nat.blt d nT = true)
    (h : wk P Q nT ((d, .slice (some ⟨w.heap.size, 0, none⟩) 1 1) :: σ) (.ops all l :: k) (w.alloc (.cells #[.int .u8 v0] t'))) : wk P Q nT σ (.ops all (⟨some d, .buildSlice t 1 #[(0, x0)], ty, ps, af, none⟩ :: l) :: k) w :=
  wk_val (fun _ ha => run_bs1 hB rfl (ha.ev h0)) hd h
theorem wk_bs2 (hB : ByteT P t t') {x0 x1 : Operand} {v0 v1 : Int} (h0 : evs σ x0 = some (.int .u8 v0)) (h1 : evs σ x1 = some (.int .u8 v1)) (hd : Nat.blt d nT = true)
    (h : wk P Q nT ((d, .slice (some ⟨w.heap.size, 0, none⟩) 2 2) :: σ) (.ops all l :: k) (w.alloc (.cells #[.int .u8 v0, .int .u8 v1] t'))) : wk P Q nT σ (.ops all (⟨some d, .buildSlice t 2 #[(0, x0), (1, x1)], ty, ps, af, none⟩ :: l) :: k) w :=
  wk_val (fun _ ha => run_bs2 hB rfl (ha.ev h0) (ha.ev h1)) hd h
theorem wk_bs3 (hB : ByteT P t t') {x0 x1 x2 : Operand} {v0 v1 v2 : Int} (h0 : evs σ x0 = some (.int .u8 v0)) (h1 : evs σ x1 = some (.int .u8 v1)) (h2 : evs σ x2 = some (.int .u8 v2)) (hd : Nat.blt d nT = true)
    (h : wk P Q nT ((d, .slice (some ⟨w.heap.size, 0, none⟩) 3 3) :: σ) (.ops all l :: k) (w.alloc (.cells #[.int .u8 v0, .int .u8 v1, .int .u8 v2] t'))) : wk P Q nT σ (.ops all (⟨some d, .buildSlice t 3 #[(0, x0), (1, x1), (2, x2)], ty, ps, af, none⟩ :: l) :: k) w :=
  wk_val (fun _ ha => run_bs3 hB rfl (ha.ev h0) (ha.ev h1) (ha.ev h2)) hd h
theorem wk_bs4 (hB : ByteT P t t') {x0 x1 x2 x3 : Operand} {v0 v1 v2 v3 : Int} (h0 : evs σ x0 = some (.int .u8 v0)) (h1 : evs σ x1 = some (.int .u8 v1)) (h2 : evs σ x2 = some (.int .u8 v2)) (h3 : evs σ x3 = some (.int .u8 v3)) (hd : Nat.blt d nT = true)
    (h : wk P Q nT ((d, .slice (some ⟨w.heap.size, 0, none⟩) 4 4) :: σ) (.ops all l :: k) (w.alloc (.cells #[.int .u8 v0, .int .u8 v1, .int .u8 v2, .int .u8 v3] t'))) : wk P Q nT σ (.ops all (⟨some d, .buildSlice t 4 #[(0, x0), (1, x1), (2, x2), (3, x3)], ty, ps, af, none⟩ :: l) :: k) w :=
  wk_val (fun _ ha => run_bs4 hB rfl (ha.ev h0) (ha.ev h1) (ha.ev h2) (ha.ev h3)) hd h
theorem wk_bs5 (hB : ByteT P t t') {x0 x1 x2 x3 x4 : Operand} {v0 v1 v2 v3 v4 : Int} (h0 : evs σ x0 = some (.int .u8 v0)) (h1 : evs σ x1 = some (.int .u8 v1)) (h2 : evs σ x2 = some (.int .u8 v2)) (h3 : evs σ x3 = some (.int .u8 v3)) (h4 : evs σ x4 = some (.int .u8 v4)) (hd : Nat.blt d nT = true)
    (h : wk P Q nT ((d, .slice (some ⟨w.heap.size, 0, none⟩) 5 5) :: σ) (.ops all l :: k) (w.alloc (.cells #[.int .u8 v0, .int .u8 v1, .int .u8 v2, .int .u8 v3, .int .u8 v4] t'))) : wk P Q nT σ (.ops all (⟨some d, .buildSlice t 5 #[(0, x0), (1, x1), (2, x2), (3, x3), (4, x4)], ty, ps, af, none⟩ :: l) :: k) w :=
  wk_val (fun _ ha => run_bs5 hB rfl (ha.ev h0) (ha.ev h1) (ha.ev h2) (ha.ev h3) (ha.ev h4)) hd h
theorem wk_bs8 (hB : ByteT P t t') {x0 x1 x2 x3 x4 x5 x6 x7 : Operand} {v0 v1 v2 v3 v4 v5 v6 v7 : Int} (h0 : evs σ x0 = some (.int .u8 v0)) (h1 : evs σ x1 = some (.int .u8 v1)) (h2 : evs σ x2 = some (.int .u8 v2)) (h3 : evs σ x3 = some (.int .u8 v3)) (h4 : evs σ x4 = some (.int .u8 v4)) (h5 : evs σ x5 = some (.int .u8 v5)) (h6 : evs σ x6 = some (.int .u8 v6)) (h7 : evs σ x7 = some (.int .u8 v7)) (hd : Nat.blt d nT = true)
    (h : wk P Q nT ((d, .slice (some ⟨w.heap.size, 0, none⟩) 8 8) :: σ) (.ops all l :: k) (w.alloc (.cells #[.int .u8 v0, .int .u8 v1, .int .u8 v2, .int .u8 v3, .int .u8 v4, .int .u8 v5, .int .u8 v6, .int .u8 v7] t'))) : wk P Q nT σ (.ops all (⟨some d, .buildSlice t 8 #[(0, x0), (1, x1), (2, x2), (3, x3), (4, x4), (5, x5), (6, x6), (7, x7)], ty, ps, af, none⟩ :: l) :: k) w :=
  wk_val (fun _ ha => run_bs8 hB rfl (ha.ev h0) (ha.ev h1) (ha.ev h2) (ha.ev h3) (ha.ev h4) (ha.ev h5) (ha.ev h6) (ha.ev h7)) hd h

theorem wk_idxs {s : ByteArray} {n : Nat} {kk : IntKind} (hx : evs σ x = some (.string s)) (hy : evs σ y = some (.int kk n)) (ht : P.underlying t = some .string) (hn : n < s.size) (hd : Nat.blt d nT = true) (h : wk P Q nT ((d, bv s[n]) :: σ) (.ops all l :: k) w) :
    wk P Q nT σ (.ops all (⟨some d, .index t x y, ty, ps, af, none⟩ :: l) :: k) w := wk_val (fun _ ha => run_index_str rfl ht (ha.ev hx) (ha.ev hy) hn) hd h

theorem wk_idxv {s : ByteArray} {n : Nat} {m : Int} {kk : IntKind} {v : Value} (hx : evs σ x = some (.string s)) (hy : evs σ y = some (.int kk m)) (hm : m = n) (ht : P.underlying t = some .string) (hn : ∃ h : n < s.size, bv (s[n]'h) = v) (hd : Nat.blt d nT = true) (h : wk P Q nT ((d, v) :: σ) (.ops all l :: k) w) :
    wk P Q nT σ (.ops all (⟨some d, .index t x y, ty, ps, af, none⟩ :: l) :: k) w := by
  obtain ⟨h1, rfl⟩ := hn
  subst hm
  exact wk_val (fun _ ha => run_index_str rfl ht (ha.ev hx) (ha.ev hy) h1) hd h

theorem run_len_map0 {P : Program} {ρ : Operand → Value} {w : World} {o : Oper} {x : Operand} {t kt et : TypeId} (ho : o.op = .call ⟨.builtin .len, #[x], #[t]⟩) (ht : P.underlying t = some (.map kt et)) (hx : ρ x = .map none) :
    (execOp ρ o).run P w = .ok (.value (.int .i64 0)) w := by
  simp [execOp, ho, hx, resolve, invoke, builtin, Builtin.len_, run_underlying ht, goInt]
theorem run_len_map1 {P : Program} {ρ : Operand → Value} {w : World} {o : Oper} {x : Operand} {t kt et : TypeId} {r : Nat} {ents : Array MapEntry} {cl : Nat} (ho : o.op = .call ⟨.builtin .len, #[x], #[t]⟩) (ht : P.underlying t = some (.map kt et)) (hx : ρ x = .map (some r))
    (hr : w.heap[r]? = some (.map ents cl)) : (execOp ρ o).run P w = .ok (.value (.int .i64 ents.size)) w := by
  simp [execOp, ho, hx, resolve, invoke, builtin, Builtin.len_, run_underlying ht, goInt, getObj, Sem.run, hr]
theorem wk_maplen {kt et : TypeId} {v : Value} {X : Nat → Prop} {tl : List (Nat × List UInt8)} (hx : evs σ x = some v) (ht : P.underlying t = some (.map kt et)) (hr : Rep w X v (.tags tl)) (hd : Nat.blt d nT = true) (h : wk P Q nT ((d, .int .i64 tl.length) :: σ) (.ops all l :: k) w) :
    wk P Q nT σ (.ops all (⟨some d, .call ⟨.builtin .len, #[x], #[t]⟩, ty, ps, af, none⟩ :: l) :: k) w := by
  cases hr with
  | tnil => exact wk_val (fun _ ha => run_len_map0 rfl ht (ha.ev hx)) hd h
  | tags r ents cl tl hb hh hrep =>
    obtain ⟨m, h1, h2, _⟩ := hrep
    have : tl.length = ents.size := by rw [← h1, h2.length_eq]
    rw [this] at h
    exact wk_val (fun _ ha => run_len_map1 rfl ht (ha.ev hx) hh) hd h
theorem wk_makeFunc {fn : Fn} {first cap : Array Operand} {vs us : List Value} (hv : first.toList.map (evs σ) = vs.map some) (hu : cap.toList.map (evs σ) = us.map some) (hd : Nat.blt d nT = true) (h : wk P Q nT ((d, .func fn vs.toArray us.toArray) :: σ) (.ops all l :: k) w) :
    wk P Q nT σ (.ops all (⟨some d, .makeFunc fn first cap, ty, ps, af, none⟩ :: l) :: k) w := by
  refine wk_val (fun a ha => ?_) hd h
  have key : ∀ (as : Array Operand) (vs : List Value), as.toList.map (evs σ) = vs.map some → as.map a.eval = vs.toArray := by
    intro as vs h
    have key2 : ∀ (args : List Operand) (vs : List Value), args.map (evs σ) = vs.map some → args.map a.eval = vs := by
      intro args
      induction args with
      | nil => intro vs h; cases vs with
        | nil => rfl
        | cons _ _ => simp at h
      | cons x r ih => intro vs h; cases vs with
        | nil => simp at h
        | cons v vs =>
          simp only [List.map_cons, List.cons.injEq] at h
          rw [List.map_cons, ha.ev h.1, ih vs h.2]
    rw [← key2 _ _ h]
    exact Array.toList_inj.1 (by simp)
  simp [execOp, key _ _ hv, key _ _ hu, Instr.makeFunc]

/-- A call by its contract. -/
theorem wk_call {f : FuncId} {args : List Operand} {ts : Array TypeId} {vs : List Value} (hf : Callable P f) (hv : args.map (evs σ) = vs.map some) (hd : Nat.blt d nT = true)
    (h : Calls P f vs.toArray w fun e w' => ∃ v, e = .returned v ∧ wk P Q nT ((d, v) :: σ) (.ops all l :: k) w') :
    wk P Q nT σ (.ops all (⟨some d, .call ⟨.value (.func f), args.toArray, ts⟩, ty, ps, af, none⟩ :: l) :: k) w := by
  intro a ha
  have hm : args.toArray.map a.eval = vs.toArray := by
    rw [List.map_toArray]
    congr 1
    have key : ∀ (args : List Operand) (vs : List Value), args.map (evs σ) = vs.map some → args.map a.eval = vs := by
      intro args
      induction args with
      | nil => intro vs h; cases vs with
        | nil => rfl
        | cons _ _ => simp at h
      | cons x r ih => intro vs h; cases vs with
        | nil => simp at h
        | cons v vs =>
          simp only [List.map_cons, List.cons.injEq] at h
          rw [List.map_cons, ha.ev h.1, ih vs h.2]
    exact key args vs hv
  refine wpT_enter rfl (run_callf hf a.eval rfl _ _ _ rfl w) ?_
  rw [hm]
  refine h.mono ?_
  rintro e w' ⟨v, rfl, hw⟩
  exact ⟨v, rfl, hw _ (ha.put hd v)⟩

/-- Append onto a row of the call's own. -/
theorem wk_append {u v : Value} {base e : Nat} {bs xs : List UInt8} (hx : evs σ x = some u) (hy : evs σ y = some v)
    (hr : ∀ (ρ : Operand → Value) (o : Oper), o.op = .call ⟨.builtin .append, #[x, y], #[t, t']⟩ → ρ x = u → ρ y = v → ∃ d' w', (execOp ρ o).run P w = .ok (.value d') w' ∧ Own w' base e d' (bs ++ xs) ∧ Below base w w')
    (hd : Nat.blt d nT = true) (h : ∀ d' w', Own w' base e d' (bs ++ xs) → Below base w w' → wk P Q nT ((d, d') :: σ) (.ops all l :: k) w') :
    wk P Q nT σ (.ops all (⟨some d, .call ⟨.builtin .append, #[x, y], #[t, t']⟩, ty, ps, af, none⟩ :: l) :: k) w := by
  intro a ha
  obtain ⟨d', w', h1, h2, h3⟩ := hr a.eval ⟨some d, .call ⟨.builtin .append, #[x, y], #[t, t']⟩, ty, ps, af, none⟩ rfl (ha.ev hx) (ha.ev hy)
  exact wpT_value rfl h1 (h d' w' h2 h3 _ (ha.put hd d'))

/-- The end of a function. 'hq': what the function's end asks is what is asked here ('fun _ _ h => h'). -/
theorem wk_ret {fn : Func} {R : Ending → World → Prop} {r : Nat} {v : Value} (hq : ∀ a w, bodyPost P fn R .ret a w → Q .ret a w) (hrs : fn.results = #[.tmp r]) (hv : look σ r = some v) (hR : R (.returned v) w) : wk P Q nT σ (.code .ret :: k) w := by
  intro a ha
  refine wpT_ret (hq _ _ (post_ret (results_tmp hrs _ _ _) ha.2.1 ?_))
  have := ha.2.2 r v hv
  simp only [Act.eval] at this
  rw [this]
  exact hR
theorem wk_end0 {fn : Func} {R : Ending → World → Prop} (hq : ∀ a w, bodyPost P fn R .normal a w → Q .normal a w) (hrs : fn.results = #[]) (hR : R (.returned (.tuple #[])) w) : wk P Q nT σ [] w :=
  fun _ ha => hq _ _ (post_end (results_none hrs _ _ _) ha.2.1 hR)
theorem wk_ret0 {fn : Func} {R : Ending → World → Prop} (hq : ∀ a w, bodyPost P fn R .ret a w → Q .ret a w) (hrs : fn.results = #[]) (hR : R (.returned (.tuple #[])) w) : wk P Q nT σ (.code .ret :: k) w :=
  fun _ ha => wpT_ret (hq _ _ (post_ret (results_none hrs _ _ _) ha.2.1 hR))
theorem wk_ret2 {fn : Func} {R : Ending → World → Prop} {r s : Nat} {u v : Value} (hq : ∀ a w, bodyPost P fn R .ret a w → Q .ret a w) (hrs : fn.results = #[.tmp r, .tmp s]) (hu : look σ r = some u) (hv : look σ s = some v) (hR : R (.returned (.tuple #[u, v])) w) :
    wk P Q nT σ (.code .ret :: k) w := by
  intro a ha
  refine wpT_ret (hq _ _ (post_ret (results_tmp2 hrs _ _ _) ha.2.1 ?_))
  have h1 := ha.2.2 r u hu
  have h2 := ha.2.2 s v hv
  simp only [Act.eval] at h1 h2
  rw [h1, h2]
  exact hR
/-- The end of a function whose result lies in a cell of its own. -/
theorem wk_retc {fn : Func} {R : Ending → World → Prop} {r : Nat} {rt : TypeId} {ad : Addr} {v : Value} (hq : ∀ a w, bodyPost P fn R .ret a w → Q .ret a w) (hrs : fn.results = #[.cell r rt]) (hv : look σ r = some (.pointer (some ad)))
    (hl : (loadVar rt ad).run P w = .ok v w) (hR : R (.returned v) w) : wk P Q nT σ (.code .ret :: k) w := by
  intro a ha
  refine wpT_ret (hq _ _ (post_ret ?_ ha.2.1 hR))
  have := ha.2.2 r _ hv
  simp only [Act.eval, Array.getD_eq_getD_getElem?] at this
  simp [results, hrs, this, asAddr, hl]

/-- A block. -/
theorem wk_block {id : Nat} {c : Code} (h : wk P (Exit.inBlock id (Exit.then (wpT P Q k) Q)) nT σ [.code c] w) : wk P Q nT σ (.code (.block id c) :: k) w := fun a ha => loop_eq (h a ha)
theorem wk_blockEnd {id : Nat} (h : wk P Q nT σ k w) : wk P (Exit.inBlock id (Exit.then (wpT P Q k) Q)) nT σ [] w := fun a ha => h a ha
theorem wk_exit {id : Nat} {k2 : List TD} (h : wk P Q nT σ k w) : wk P (Exit.inBlock id (Exit.then (wpT P Q k) Q)) nT σ (.code (.exit id) :: k2) w :=
  fun a ha => wp_exit (by simp only [Exit.then, Exit.inBlock, if_true]; exact h a ha)

/-- What a loop's round must come to. -/
def LoopQ (P : Program) (Q : Exit → Act → World → Prop) (k : List TD) (id nT : Nat) {ι : Type} (S : ι → Sv) (W : ι → World → Prop) (μ : ι → Nat) (i : ι) : Exit → Act → World → Prop
  | .normal, a, w => ∃ i', μ i' < μ i ∧ Knows nT (S i') a ∧ W i' w
  | .exit id', a, w => if id' = id then wpT P Q k a w else Q (.exit id') a w
  | e, a, w => Q e a w

theorem r0 {Q : Exit → Act → World → Prop} : ∀ a w, Q .ret a w → Q .ret a w := fun _ _ h => h
theorem rb {A Q : Exit → Act → World → Prop} {K : Act → World → Prop} {id : Nat} (h : ∀ a w, A .ret a w → Q .ret a w) : ∀ a w, A .ret a w → Exit.inBlock id (Exit.then K Q) .ret a w := h
theorem rl {A Q : Exit → Act → World → Prop} {id nT : Nat} {ι : Type} {S : ι → Sv} {W : ι → World → Prop} {μ : ι → Nat} {i : ι} (h : ∀ a w, A .ret a w → Q .ret a w) : ∀ a w, A .ret a w → LoopQ P Q k id nT S W μ i .ret a w := h

theorem known_sub {S : Sv} (h : S.map (fun p => look σ p.1) = S.map (fun p => some p.2)) : ∀ t v, look S t = some v → look σ t = some v := by
  intro t v ht
  have hm := look_mem ht
  obtain ⟨j, hj⟩ := List.mem_iff_getElem?.1 hm
  have h1 : (S.map (fun p => look σ p.1))[j]? = (S.map (fun p => some p.2))[j]? := by rw [h]
  rw [List.getElem?_map, List.getElem?_map, hj] at h1
  exact Option.some.inj h1

theorem wk_loop {ι : Type} (S : ι → Sv) (W : ι → World → Prop) (μ : ι → Nat) (i0 : ι) {id : Nat} {b : Code} (hS : (S i0).map (fun p => look σ p.1) = (S i0).map (fun p => some p.2)) (hW : W i0 w)
    (round : ∀ i w', W i w' → wk P (LoopQ P Q k id nT S W μ i) nT (S i) [.code b] w') : wk P Q nT σ (.code (.block id (.loop b)) :: k) w := by
  intro a ha
  have key : ∀ (n : Nat) (i : ι) (a : Act) (w : World), μ i = n → Knows nT (S i) a → W i w → ∀ (B : Frame) (kk : List Item) (cs : List Frame),
      ∃ e a' w', Exit.inBlock id (Exit.then (wpT P Q k) Q) e a' w' ∧ Arrives P (lone (B.at a (.code b :: .inLoop b :: kk)) cs w) B kk cs e a' w' := by
    intro n
    induction n using Nat.strongRecOn with
    | _ n ih =>
      intro i a w hn hk hw B kk cs
      have hr : b.wp P (LoopQ P Q k id nT S W μ i) a w := wpT_one (round i w hw a hk)
      obtain ⟨e, a₁, w₁, hq, harr⟩ := hr B (.inLoop b :: kk) cs
      cases e with
      | normal =>
        obtain ⟨i', hlt, hk', hw'⟩ := hq
        obtain ⟨e₂, a₂, w₂, hq₂, harr₂⟩ := ih (μ i') (hn ▸ hlt) i' a₁ w₁ rfl hk' hw' B kk cs
        exact ⟨e₂, a₂, w₂, hq₂, .of_steps (Steps.trans harr (.one step_inLoop)) harr₂⟩
      | exit id' =>
        refine ⟨.exit id', a₁, w₁, ?_, .pass (x := .inLoop b) rfl (fun _ _ => .inl (by simp)) harr⟩
        simp only [LoopQ] at hq
        simp only [Exit.inBlock]
        split
        · rename_i he; rw [if_pos he] at hq; exact hq
        · rename_i he; rw [if_neg he] at hq; exact hq
      | goto l => exact ⟨.goto l, a₁, w₁, hq, .pass (x := .inLoop b) rfl (fun _ _ => .inl (by simp)) harr⟩
      | ret => exact ⟨.ret, a₁, w₁, hq, .pass (x := .inLoop b) rfl (fun _ _ => .inl (by simp)) harr⟩
      | panic ch => exact ⟨.panic ch, a₁, w₁, hq, .pass (x := .inLoop b) rfl (fun _ _ => .inl (by simp)) harr⟩
      | outgrown => exact ⟨.outgrown, a₁, w₁, hq, .pass (x := .inLoop b) rfl (fun _ _ => .inl (by simp)) harr⟩
  refine wp_block ?_
  intro B kk cs
  obtain ⟨e, a', w', hq, harr⟩ := key _ i0 a w rfl (ha.weak (known_sub hS)) hW B kk cs
  exact ⟨e, a', w', hq, .of_steps (.one step_loop) harr⟩
theorem wk_loopExit {ι : Type} {S : ι → Sv} {W : ι → World → Prop} {μ : ι → Nat} {i : ι} {id : Nat} {k2 : List TD} (h : wk P Q nT σ k w) : wk P (LoopQ P Q k id nT S W μ i) nT σ (.code (.exit id) :: k2) w :=
  fun a ha => wp_exit (by simp only [Exit.then, LoopQ, if_true]; exact h a ha)
theorem wk_loopNext {ι : Type} {S : ι → Sv} {W : ι → World → Prop} {μ : ι → Nat} {i : ι} {id : Nat} (i' : ι) (hμ : μ i' < μ i) (hS : (S i').map (fun p => look σ p.1) = (S i').map (fun p => some p.2)) (hW : W i' w) :
    wk P (LoopQ P Q k id nT S W μ i) nT σ [] w := fun _ ha => ⟨i', hμ, ha.weak (known_sub hS), hW⟩
end

/-- A function is entered. -/
theorem calls_wk {P : Program} {f : FuncId} {fn : Func} {c : Code} {args : List Value} {w : World} {R : Ending → World → Prop} (hf : P.funcs[f]? = some fn) (hb : fn.body = some c) (hn : Nat.ble args.length fn.ntmps = true)
    (h : wk P (bodyPost P fn R) fn.ntmps (args.zipIdx.map fun p => (p.2, p.1)) [.code c] w) : Calls P f args.toArray w R := by
  have hn := Nat.le_of_ble_eq_true hn
  refine calls_wpT hf hb (h _ ⟨by simp; omega, rfl, ?_⟩)
  intro t v ht
  have key : ∀ (l : List Value) (k : Nat), look ((l.zipIdx k).map fun p => (p.2, p.1)) t = some v → k ≤ t ∧ l[t - k]? = some v := by
    intro l
    induction l with
    | nil => intro k h; simp [look] at h
    | cons u r ih =>
      intro k h
      simp only [List.zipIdx_cons, List.map_cons, look] at h
      split at h
      · rename_i hb
        have := Nat.eq_of_beq_eq_true hb
        subst this
        exact ⟨Nat.le_refl _, by simpa using h⟩
      · obtain ⟨h1, h2⟩ := ih (k + 1) h
        exact ⟨by omega, by rw [show t - k = (t - (k + 1)) + 1 from by omega]; simpa using h2⟩
  obtain ⟨_, h2⟩ := key args 0 ht
  rw [Nat.sub_zero] at h2
  have hlt := (List.getElem?_eq_some_iff.1 h2).1
  simp only [Act.eval, Array.getD_eq_getD_getElem?]
  rw [Array.getElem?_append_left (by simpa using hlt)]
  simp [h2]
attribute [irreducible] wk
end Go.Proofs.Eng
