/-
  What a member of the sticky strategy says: the bytes, how it lies in memory, and how it comes in.
-/
import Derived.Test.YthejiimocbfagaaHOpen
import Derived.DataShut
import Derived.Deep.Slices
set_option linter.unusedVariables false
set_option linter.unusedSimpArgs false
namespace Go.Proofs.Ythejiimocbfagaa
open Go Go.RowKit Go.Proofs.Eng Go.WideShapes Go.ChangeShapes
set_option maxRecDepth 20000
def ownB (o : ByteArray × List Int) : List UInt8 := be 2 o.1.size ++ (o.1.data.toList ++ (be 4 o.2.length ++ o.2.flatMap (be 4)))
def stkB (l : List (ByteArray × List Int)) (g : Int) : List UInt8 := be 4 l.length ++ (l.flatMap ownB ++ if g = -1 then [] else be 4 g)
/-- Numbers in a slice. -/
def PRep (w : World) (X : Nat → Prop) (v : Value) (l : List Int) : Prop := Lies w X v l.length 1 (fun i => match l[i]? with | some z => [.int .i32 z] | none => [])
/-- Topics, and their partitions. -/
def ORep (w : World) (X : Nat → Prop) (v : Value) (l : List (ByteArray × List Int)) : Prop :=
  ∃ vals : Nat → Value, Lies w X v l.length 2 (fun i => match l[i]? with | some r => [.string r.1, vals i] | none => []) ∧ ∀ (i : Nat) (r : ByteArray × List Int), l[i]? = some r → PRep w X (vals i) r.2 ∧ ∀ z ∈ r.2, IntKind.i32.wrap z = z
theorem ORep.keep {w w' : World} {X : Nat → Prop} {v : Value} {l : List (ByteArray × List Int)} (h : ORep w X v l) (k : Keeps X w w') : ORep w' X v l := by
  obtain ⟨vals, h1, h2⟩ := h
  exact ⟨vals, h1.keep k, fun i r hr => ⟨(h2 i r hr).1.keep k, (h2 i r hr).2⟩⟩
theorem wf32 {n : Int} (h : (Lit.int .i32 n).wf = true) : IntKind.i32.wrap n = n := by
  have h2 := (Lit.wf_int_iff .i32 n).1 h
  simp [IntKind.min, IntKind.max, IntKind.bits, IntKind.signed] at h2
  simp only [IntKind.wrap, IntKind.bits, IntKind.signed]
  simp
  omega
section
variable {H : Type} {enc : TypeId × Value → H} {W : World}
theorem ints_in {fuel : Nat} {c : Value} {x : DataW H × List MemPlace} (h : DataW.trod enc Try.prog W 0 (fun _ => true) true fuel 40 [c] = some x) : ∃ l : List Int, PRep W (fun _ => False) c l ∧ ∀ z ∈ l, IntKind.i32.wrap z = z := by
  rcases open_ints Try.underlying40 Try.underlying21 (by kernel_rfl) h with ⟨hcs, _⟩ | ⟨a, len, cap, zs, hcs, _, hl, _, hz, _, hcell, hwz⟩
  · obtain rfl : c = .slice none 0 0 := by simpa using hcs
    exact ⟨[], ⟨none, 0, rfl, Nat.le_refl _, fun _ => ⟨rfl, rfl⟩, fun i hi => by simp at hi⟩, by simp⟩
  · obtain rfl : c = .slice (some a) len cap := by simpa using hcs
    simp only [if_true] at hz
    have hlen : (zs.take len).length = len := by simp; omega
    refine ⟨zs.take len, ⟨some a, cap, by rw [hlen], by rw [hlen]; exact hl, (fun h => by cases h), fun i hi => ?_⟩, fun z hz => wf32 (hwz z (List.mem_of_mem_take hz))⟩
    rw [hlen] at hi
    have hci := hcell i (by omega)
    have hgi : (zs.take len)[i]? = some zs[i] := by rw [List.getElem?_take_of_lt hi, List.getElem?_eq_getElem (by omega)]
    simp only [hgi]
    obtain ⟨b, o, s⟩ := a
    have hc0 := hcell 0 (by omega)
    have e0 : (⟨b, o, s⟩ : Addr).add 0 = ⟨b, o, s⟩ := by simp [Addr.add]
    rw [e0] at hc0
    have hs : s = none := by
      cases s with
      | none => rfl
      | some q =>
        unfold World.cell? at hc0
        split at hc0 <;> simp at hc0
    subst hs
    have e1 : (⟨b, o, none⟩ : Addr).add i = ⟨b, o + i, none⟩ := by unfold Addr.add; split <;> simp_all
    rw [e1] at hci
    refine ⟨rfl, b, o, rfl, id, cell_lt0 hci, fun k u hk => ?_⟩
    match k, hk with
    | 0, hk =>
      simp only [List.getElem?_cons_zero, Option.some.injEq] at hk
      subst hk
      rw [Nat.mul_one, Nat.add_zero, hci, List.getD_eq_getElem?_getD, List.getElem?_eq_getElem (by omega)]
      rfl
    | k + 1, hk => simp at hk
/-- A slice of structs in a cell. -/
theorem rows_in0 {fuel t e sz : Nat} {c : Value} {x : DataW H × List MemPlace} (ht : Try.prog.underlying t = some (.slice e)) (hsz : Try.prog.cellsOf e = sz) (h0 : 0 < sz) (h : DataW.trod enc Try.prog W 0 (fun _ => true) true fuel t [c] = some x) :
    ∃ (len n : Nat) (cells : Nat → List Value) (D : Nat → DataW H × List MemPlace), Lies W (fun _ => False) c len sz cells ∧ ∀ i, i < len → DataW.trod enc Try.prog W 0 (fun _ => true) true n e (cells i) = some (D i) := by
  have hfuel := h
  rcases DataW.trod_slice ht hfuel with ⟨hcs, rfl⟩ | ⟨a, len, cap, elems, rest, n, rfl, hcs, rfl, _, hl, _, hlen, hel, _, _⟩
  · obtain rfl : c = .slice none 0 0 := by simpa using hcs
    exact ⟨0, 0, fun _ => [], fun _ => (.nil, []), ⟨none, 0, rfl, Nat.le_refl _, fun _ => ⟨rfl, rfl⟩, fun i hi => by omega⟩, fun i hi => by omega⟩
  · obtain rfl : c = .slice (some a) len cap := by simpa using hcs
    have each : ∀ i, i < len → ∃ cs', W.cells? 0 (a.add (i * sz)) sz = some cs' ∧ DataW.trod enc Try.prog W 0 (fun _ => true) true n e cs' = some (elems.getD i (.nil, [])) := by
      intro i hi
      have := hel i hi
      rw [List.getElem?_eq_getElem (by omega), hsz] at this
      obtain ⟨cs', h1, h2⟩ := Option.bind_eq_some_iff.1 this
      exact ⟨cs', h1, by rw [h2]; simp [List.getD, List.getElem?_eq_getElem (show i < elems.length by omega)]⟩
    obtain ⟨cells, hcells⟩ := Go.Deep.choose_lt each
    refine ⟨len, n, cells, fun i => elems.getD i (.nil, []), ⟨some a, cap, rfl, hl, (fun h => by cases h), fun i hi => ?_⟩, fun i hi => (hcells i hi).2⟩
    obtain ⟨_, h2, h3⟩ := World.cells?_some (hcells i hi).1
    have hs : a.spot = none := by
      obtain ⟨_, k2, k3⟩ := World.cells?_some (hcells 0 (by omega)).1
      have k4 := k3 0 h0
      rw [Nat.zero_mul, show (a.add 0).add 0 = a by simp [Addr.add], List.getElem?_eq_getElem (by omega)] at k4
      cases hsp : a.spot with
      | none => rfl
      | some q =>
        unfold World.cell? at k4
        rw [hsp] at k4
        split at k4 <;> simp at k4
    obtain ⟨b, o, s⟩ := a
    simp only at hs
    subst hs
    have e1 : ∀ k, ((⟨b, o, none⟩ : Addr).add (i * sz)).add k = ⟨b, o + i * sz + k, none⟩ := by
      intro k
      rw [add_addr, add_addr]
    refine ⟨h2, b, o, rfl, id, ?_, fun k u hk => ?_⟩
    · have := h3 0 h0
      rw [e1, List.getElem?_eq_getElem (by omega)] at this
      exact cell_lt0 this
    · have hk2 := (List.getElem?_eq_some_iff.1 hk).1
      rw [← e1, h3 k (by omega), hk]
theorem owned_in {fuel : Nat} {cs : List Value} {x : DataW H × List MemPlace} (h : DataW.trod enc Try.prog W 0 (fun _ => true) true fuel 42 cs = some x) : ∃ (s : ByteArray) (v : Value) (l : List Int), cs = [.string s, v] ∧ PRep W (fun _ => False) v l ∧ ∀ z ∈ l, IntKind.i32.wrap z = z := by
  obtain ⟨y0, y1, n, rfl, hl, f0, f1⟩ := trod_struct2 Try.underlying42 h
  rw [show Try.prog.cellsOf 42 = 2 by kernel_rfl] at hl
  match cs, hl with
  | [c0, c1], _ =>
    have f0 : DataW.trod enc Try.prog W 0 (fun _ => true) true n 9 (([c0, c1].drop 0).take (Try.prog.cellsOf 9)) = some y0 := f0
    have f1 : DataW.trod enc Try.prog W 0 (fun _ => true) true n 40 (([c0, c1].drop 1).take (Try.prog.cellsOf 40)) = some y1 := f1
    rw [show Try.prog.cellsOf 9 = 1 by kernel_rfl] at f0
    rw [show Try.prog.cellsOf 40 = 1 by kernel_rfl] at f1
    obtain ⟨s, hs, _, _⟩ := DataW.trod_string Try.underlying9 f0
    obtain rfl : c0 = .string s := by simpa using hs
    obtain ⟨l, hr, hw⟩ := ints_in (c := c1) f1
    exact ⟨s, c1, l, rfl, hr, hw⟩
theorem sticky_in {fuel : Nat} {cs : List Value} {x : DataW H × List MemPlace} (h : DataW.trod enc Try.prog W 0 (fun _ => true) true fuel 25 cs = some x) :
    ∃ (v : Value) (l : List (ByteArray × List Int)) (g : Int), cs = [v, .int .i32 g] ∧ ORep W (fun _ => False) v l ∧ IntKind.i32.wrap g = g := by
  obtain ⟨y0, y1, n, rfl, hl, f0, f1⟩ := trod_struct2 Try.underlying25 h
  rw [show Try.prog.cellsOf 25 = 2 by kernel_rfl] at hl
  match cs, hl with
  | [c0, c1], _ =>
    have f0 : DataW.trod enc Try.prog W 0 (fun _ => true) true n 23 (([c0, c1].drop 0).take (Try.prog.cellsOf 23)) = some y0 := f0
    have f1 : DataW.trod enc Try.prog W 0 (fun _ => true) true n 21 (([c0, c1].drop 1).take (Try.prog.cellsOf 21)) = some y1 := f1
    rw [show Try.prog.cellsOf 23 = 1 by kernel_rfl] at f0
    rw [show Try.prog.cellsOf 21 = 1 by kernel_rfl] at f1
    obtain ⟨g, hg, _, hw⟩ := DataW.trod_int Try.underlying21 f1
    obtain rfl : c1 = .int .i32 g := by simpa using hg
    obtain ⟨len, m, cells, D, hL, hel⟩ := rows_in0 (c := c0) Try.underlying23 (show Try.prog.cellsOf 42 = 2 by kernel_rfl) (by omega) f0
    have each : ∀ i, i < len → ∃ p : (ByteArray × List Int) × Value, cells i = [.string p.1.1, p.2] ∧ PRep W (fun _ => False) p.2 p.1.2 ∧ ∀ z ∈ p.1.2, IntKind.i32.wrap z = z := by
      intro i hi
      obtain ⟨s, v, l, h1, h2, h3⟩ := owned_in (hel i hi)
      exact ⟨((s, l), v), h1, h2, h3⟩
    have : Inhabited ((ByteArray × List Int) × Value) := ⟨((⟨#[]⟩, []), undef)⟩
    obtain ⟨p, hp⟩ := Go.Deep.choose_lt each
    refine ⟨c0, (List.range len).map fun i => (p i).1, g, rfl, ⟨fun i => (p i).2, ?_, fun i r hr => ?_⟩, wf32 hw⟩
    · rw [List.length_map, List.length_range]
      obtain ⟨A, c', h1, h2, h3, h4⟩ := hL
      refine ⟨A, c', h1, h2, h3, fun i hi => ?_⟩
      have key := h4 i hi
      rw [(hp i hi).1] at key
      have e : ((List.range len).map fun i => (p i).1)[i]? = some (p i).1 := by rw [List.getElem?_map, List.getElem?_range hi]; rfl
      dsimp only
      rw [e]
      exact key
    · have hi : i < len := by have := (List.getElem?_eq_some_iff.1 hr).1; simpa using this
      rw [List.getElem?_map, List.getElem?_range hi] at hr
      obtain rfl := Option.some.inj hr
      exact (hp i hi).2
end
end Go.Proofs.Ythejiimocbfagaa
