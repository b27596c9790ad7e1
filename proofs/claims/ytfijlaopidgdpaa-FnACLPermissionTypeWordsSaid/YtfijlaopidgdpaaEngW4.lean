/-
  The executor of writing tells the truth: what it says is written is written.
-/
import Derived.Test.YtfijlaopidgdpaaEngW3
namespace Go.Proofs.Eng
open Go Go.RowKit

def fin : Option Nat → Exit
  | some _ => .ret
  | none => .normal

/-- What holds behind a run. -/
structure After (a a' : Act) (w w' : World) (base tB nT : Nat) (wr : List Nat) (d' : Value) (bs : List UInt8) : Prop where
  size : a'.tmps.size = nT
  defers : a'.defers = a.defers
  same : ∀ t, t ∉ wr → a'.eval (.tmp t) = a.eval (.tmp t)
  own : Own w' base tB d' bs
  below : Below base w w'

theorem wrO_cons {o : Oper} {l : List Oper} {t : Nat} (h : t ∉ wrO (o :: l)) : some t ≠ o.dst ∧ t ∉ wrO l := by
  unfold wrO at h
  rw [List.filterMap_cons] at h
  cases ho : o.dst with
  | none => rw [ho] at h; exact ⟨by simp, h⟩
  | some e =>
    rw [ho] at h
    simp only [List.mem_cons, not_or] at h
    exact ⟨fun e' => h.1 (Option.some.inj e'), h.2⟩
theorem eval_put_far {a : Act} {o : Option Nat} {v : Value} {t : Nat} (h : some t ≠ o) : (a.put o v).eval (.tmp t) = a.eval (.tmp t) := by
  cases o with
  | none => rfl
  | some e => exact eval_put_other _ _ _ _ (fun h' => h (by rw [h']))

theorem elem_length {cs : List CV} {n e i : Nat} (h : cs.length = n * e) (hi : i < n) : (elem cs e i).length = e := by
  have h2 : (i + 1) * e ≤ n * e := Nat.mul_le_mul_right _ hi
  rw [Nat.add_mul, Nat.one_mul] at h2
  simp only [elem, List.length_take, List.length_drop, h]
  omega
theorem elem_get {cs : List CV} {e i k : Nat} {c : CV} (h : (elem cs e i)[k]? = some c) : cs[i * e + k]? = some c ∧ k < e := by
  simp only [elem, List.getElem?_take] at h
  split at h
  · rename_i hk; exact ⟨by rwa [List.getElem?_drop] at h, hk⟩
  · cases h

/-- A thing of a list, as a level of its own. -/
theorem lv_elem {w : World} {base : Nat} {sh : List K} {v : Value} {nl : Bool} {n : Nat} {es : List CV} (hr : Rep w (fun b => base ≤ b) v (.arr nl n es)) (hc : Conf (.arr sh) (.arr nl n es)) {i : Nat} (hi : i < n) :
    ∃ M : Lv, LvOK w base sh M ∧ M.cs = elem es sh.length i ∧ M.i = i ∧ M.o = i * M.vals.length ∧ ∃ c, v = .slice (some ⟨M.b, 0, none⟩) n c := by
  cases hc with
  | arr _ _ _ _ hl hn hn2 h =>
    cases hr with
    | anil => exact absurd hi (by omega)
    | arr b _ cap t cur _ hb hcur hlen hcap hrep =>
      have hsz : (i + 1) * sh.length ≤ n * sh.length := Nat.mul_le_mul_right _ hi
      rw [Nat.add_mul, Nat.one_mul] at hsz
      have hvl : ((cur.toList.drop (i * sh.length)).take sh.length).length = sh.length := by
        simp only [List.length_take, List.length_drop, Array.length_toList]
        omega
      have hget : ∀ (k : Nat) (u : Value), ((cur.toList.drop (i * sh.length)).take sh.length)[k]? = some u → cur[i * sh.length + k]? = some u ∧ k < sh.length := by
        intro k u hu
        rw [List.getElem?_take] at hu
        split at hu
        · rename_i hk
          rw [List.getElem?_drop] at hu
          exact ⟨by simpa using hu, hk⟩
        · cases hu
      refine ⟨⟨b, i * sh.length, i, (cur.toList.drop (i * sh.length)).take sh.length, elem es sh.length i⟩, ⟨by simpa using hb, hvl, ⟨elem_length hl hi, ?_⟩, ?_, ?_⟩, rfl, rfl, ?_, cap, rfl⟩
      · intro k c kk hck hkk
        obtain ⟨h1, h2⟩ := elem_get hck
        refine h _ c kk h1 ?_
        rw [Nat.add_comm, Nat.add_mul_mod_self_right, Nat.mod_eq_of_lt h2]
        exact hkk
      · intro k u hu
        obtain ⟨h1, _⟩ := hget k u hu
        rw [cell_of_row w b (i * sh.length + k) cur t (0, 0) hcur]
        exact h1
      · intro k u c hu hcc
        obtain ⟨h1, _⟩ := hget k u hu
        exact hrep _ u c h1 (elem_get hcc).1
      · simp only [hvl]

theorem flatMap_range_succ {α : Type} (f : Nat → List α) (t : Nat) : (List.range (t + 1)).flatMap f = (List.range t).flatMap f ++ f t := by
  rw [List.range_succ, List.flatMap_append]; simp
theorem flatMap_length_mono {α : Type} (f : Nat → List α) {t n : Nat} (h : t ≤ n) : ((List.range t).flatMap f).length ≤ ((List.range n).flatMap f).length := by
  induction n with
  | zero => have : t = 0 := by omega
            subst this; exact Nat.le_refl _
  | succ n ih =>
    rcases Nat.lt_or_ge n t with h' | h'
    · have : t = n + 1 := by omega
      subst this; exact Nat.le_refl _
    · have := ih h'
      rw [flatMap_range_succ, List.length_append]
      omega

theorem Own.lt {w : World} {base tB : Nat} {d : Value} {bs : List UInt8} (h : Own w base tB d bs) {g : Nat} (hg : d.ownBlock = some g) : base ≤ g := (World.ownsRow.lt h g hg).1
theorem below_of_grown {w w' : World} {base : Nat} {d : Value} {tB : Nat} {bs : List UInt8} (ho : Own w base tB d bs) (hb : base ≤ w.heap.size) (hg : w.grownBy w' d.ownBlock) : Below base w w' :=
  Below.grown (Below.refl base w) hg hb (fun _ hk => ho.lt hk)

theorem Own.below {w w' : World} {base tB : Nat} {d : Value} {bs : List UInt8} (h : Own w base tB d bs) (hb : Below w.heap.size w w') : Own w' base tB d bs :=
  World.ownsRow.kept h (row := none) ⟨hb.os, hb.tape, hb.output, hb.size, fun k hk _ => hb.block k hk⟩ (by cases d.ownBlock <;> simp)

/-- A variable of several cells: made, written, read. -/
theorem box_ok {P : Program} {t : Nat} {d : TypeDesc} {i : TypeInfo} {z : Value} (hu : P.underlying t = some d) (hd : aggB d = true) (hi : P.info? t = some i) (hz : i.zero = some z) (hzs : z.cells.size = i.size)
    (vs : List Value) (hl : vs.length = i.size) (h1 : ∀ v ∈ vs, v.oneCell' = true) (w : World) :
    ∃ w1 w2, (Instr.alloc t true (.tuple #[])).run P w = .ok (.pointer (some ⟨w.heap.size, 0, none⟩)) w1 ∧ (storeVar t ⟨w.heap.size, 0, none⟩ (.agg vs.toArray)).run P w1 = .ok () w2 ∧
      (loadVar t ⟨w.heap.size, 0, none⟩).run P w2 = .ok (.agg vs.toArray) w2 ∧ Below w.heap.size w w2 ∧ w2.heap[w.heap.size]? = some (.cells vs.toArray t (0, 0)) := by
  have hnew : (w.alloc (.cells z.cells t)).heap[w.heap.size]? = some (.cells z.cells t (0, 0)) := heap_alloc_new w _
  refine ⟨w.alloc (.cells z.cells t), (w.alloc (.cells z.cells t)).setRow w.heap.size vs.toArray, ?_, ?_, ?_, ?_, ?_⟩
  · simp [Instr.alloc, zeroValue, typeInfo, hi, hz, newVar, newRow]
  · exact run_storeVar_row _ _ t t _ _ hnew (by simp [hi, hl]) (by simp [hzs, hl]) (by simpa using h1)
  · exact run_loadVar_row _ _ t t vs.toArray (0, 0) d (setRow_heap _ _ _ _ t (0, 0) hnew) hu (by cases d <;> first | rfl | exact absurd hd (by simp [aggB])) (by simp [hi, hl])
  · refine ⟨rfl, rfl, rfl, by simp, fun k hk => ?_⟩
    rw [setRow_other _ _ _ _ (by omega)]
    exact Below.heap_alloc w _ k hk
  · exact setRow_heap _ _ _ _ t (0, 0) hnew

theorem loop_eq {P : Program} {Q : Exit → Act → World → Prop} {k : List TD} {id : Nat} {c : Code} {a : Act} {w : World} (h : wpT P (Exit.inBlock id (Exit.then (wpT P Q k) Q)) [.code c] a w) :
    wpT P Q (.code (.block id c) :: k) a w := by
  refine wp_block ?_
  exact wp_mono h (fun e a w q => by cases e <;> exact q)

theorem asLoopW_inv {id : Nat} {b : Code} {L : LoopW} (h : asLoopW id b = some L) :
    ∃ r1 r2 id2 t1 t2 t3 t4 ps1 ps2 ps3 y1 y2 y3 e1 e2 e3, flatC b =
      [.region r1 #[⟨some L.c, .binOp .lss t1 (.tmp L.i) (.tmp L.m) t2, y1, ps1, e1, none⟩] false, .cond (.tmp L.c) .skip (.exit id), .block id2 L.bd,
       .region r2 #[⟨some L.s, .binOp .add t3 (.tmp L.i) (.const (.int .i64 1)) t4, y2, ps2, e2, none⟩, ⟨some L.i, .move (.tmp L.s), y3, ps3, e3, none⟩] false] ∧
      L.c ≠ L.i ∧ L.c ≠ L.m ∧ L.s ≠ L.i ∧ L.s ≠ L.m ∧ L.i ≠ L.m ∧ L.i ∉ wrC L.bd ∧ L.m ∉ wrC L.bd ∧ L.i ≠ 1 ∧ L.c ≠ 1 ∧ L.s ≠ 1 := by
  unfold asLoopW at h
  split at h
  · rename_i r1 o1 c id' id2 bd r2 o2 hf
    split at h
    · rename_i c' t1 i m t2 y1 ps1 e1 s t3 i1 t4 y2 ps2 e2 i2 s' y3 ps3 e3 h1 h2
      split at h
      · rename_i hc
        simp only [Bool.and_eq_true, Nat.beq_eq, Bool.not_eq_true'] at hc
        obtain ⟨⟨⟨⟨⟨⟨⟨⟨⟨⟨⟨⟨⟨⟨rfl, rfl⟩, rfl⟩, rfl⟩, rfl⟩, a1⟩, a2⟩, a3⟩, a4⟩, a5⟩, a6⟩, a7⟩, a8⟩, a9⟩, a10⟩ := hc
        cases h
        have ne : ∀ {x y : Nat}, x.beq y = false → x ≠ y := fun h e => by subst e; simp at h
        obtain rfl : o1 = #[_] := Array.toList_inj.1 h1
        obtain rfl : o2 = #[_, _] := Array.toList_inj.1 h2
        refine ⟨r1, r2, id2, t1, t2, t3, t4, ps1, ps2, ps3, y1, y2, y3, e1, e2, e3, hf, ne a1, ne a2, ne a3, ne a4, ne a5, ?_, ?_, ne a8, ne a9, ne a10⟩
        · intro hm; rw [has_iff.2 hm] at a6; cases a6
        · intro hm; rw [has_iff.2 hm] at a7; cases a7
      · cases h
    · cases h
  · cases h
end Go.Proofs.Eng
