/-
  A tree of the reference as an argument: what it says, that it lies in memory, and that its bulk bounds it.
-/
import Derived.Test.YthejiimocbfagabGreatDoorPR
import Derived.Test.YthejiimocbfagabGreatDoorRows
import Derived.Test.YthejiimocbfagabGreatDoorEngG
import Derived.ChangeSlices
import Derived.ChangeArms
import Derived.OpenShut
import Derived.DataShut
import Derived.Deep.Slices
set_option linter.unusedVariables false
set_option linter.unusedSimpArgs false
namespace Go.Proofs.YthejiimocbfagabGreatDoor
open Go Go.RowKit Go.Proofs.Eng Go.WideShapes Go.ChangeShapes
set_option maxRecDepth 20000

section
variable {H : Type} {enc : TypeId × Value → H} {W : World}
theorem bulk_one (d : DataW H) : 1 ≤ Rows.uptoBulk d := by
  cases d with
  | lit l => cases l <;> simp [Rows.uptoBulk]
  | _ => simp [Rows.uptoBulk]
theorem bulk_lits (k : IntKind) (zs : List Int) : Rows.uptoBulkAll (lits (H := H) k zs) = zs.length := by
  induction zs with
  | nil => simp [lits, Rows.uptoBulkAll]
  | cons z r ih =>
    have e : lits (H := H) k (z :: r) = .lit (.int k z) :: lits k r := rfl
    rw [e]
    simp only [Rows.uptoBulkAll, Rows.uptoBulk, List.length_cons, ih]
    omega
theorem bulk_range (D : Nat → DataW H) (f : Nat → Nat) : ∀ (n k : Nat), (∀ i, i < k + n → f i ≤ Rows.uptoBulk (D i)) → ((List.range' k n).map f).sum ≤ Rows.uptoBulkAll ((List.range' k n).map D) := by
  intro n
  induction n with
  | zero => intro k _; simp
  | succ n ih =>
    intro k h
    have h1 := h k (by omega)
    have h2 := ih (k + 1) (fun i hi => h i (by omega))
    simp only [List.range'_succ, List.map_cons, List.sum_cons, Rows.uptoBulkAll]
    omega
theorem cell_lt {w : World} {a : Addr} {v : Value} (h : w.cell? a = some v) : a.block < w.heap.size := by
  unfold World.cell? at h
  split at h
  · rename_i hh
    exact lt_of_some hh
  · cases h
theorem max_lim {n : Nat} (h : n ≤ 1048576) : n ≤ lim := by rw [lim_eq]; omega
/-- Bytes in a cell. -/
theorem bytes_in {fuel : Nat} {c : Value} {x : DataW H × List MemPlace} (h : DataW.trod enc Tryz.prog W 0 (fun _ => true) true fuel 22 [c] = some x) : ∃ l : List UInt8, BytesRep0 W (fun _ => False) c l ∧ l.length + 1 ≤ Rows.uptoBulk x.1 := by
  have hc : Tryz.prog.cellsOf 5 = 1 := by kernel_rfl
  rcases open_ints Tryz.underlying22 Tryz.underlying5 hc h with ⟨hcs, rfl⟩ | ⟨a, len, cap, zs, hcs, _, hl, _, hz, rfl, hcell, hwz⟩
  · obtain rfl : c = .slice none 0 0 := by simpa using hcs
    exact ⟨[], .inl ⟨⟨_, rfl⟩, rfl⟩, by simp [Rows.uptoBulk]⟩
  · obtain rfl : c = .slice (some a) len cap := by simpa using hcs
    simp only [if_true] at hz
    have hb : (List.length ((zs.take len).map fun n => UInt8.ofNat n.toNat)) + 1 ≤ Rows.uptoBulk (DataW.slice (H := H) (lits .u8 (zs.take len)) (lits .u8 (zs.drop len))) := by
      simp only [Rows.uptoBulk, bulk_lits, List.length_map]
      omega
    by_cases h0 : cap = 0
    · subst h0
      obtain rfl : len = 0 := by omega
      exact ⟨[], .inl ⟨⟨_, rfl⟩, rfl⟩, by simp [Rows.uptoBulk]⟩
    · have hc0 := hcell 0 (by omega)
      obtain ⟨b, o, s⟩ := a
      have e0 : (⟨b, o, s⟩ : Addr).add 0 = ⟨b, o, s⟩ := by simp [Addr.add]
      rw [e0] at hc0
      have hs : s = none := by
        cases s with
        | none => rfl
        | some q =>
          unfold World.cell? at hc0
          split at hc0 <;> simp at hc0
      subst hs
      refine ⟨(zs.take len).map fun n => UInt8.ofNat n.toNat, .inr ⟨b, o, len, cap, rfl, id, cell_lt hc0, by simp; omega, hl, fun i x hi => ?_⟩, hb⟩
      rw [List.getElem?_map, Option.map_eq_some_iff] at hi
      obtain ⟨n, hn, rfl⟩ := hi
      have hi2 : i < len := by have := (List.getElem?_eq_some_iff.1 hn).1; simp at this; omega
      rw [List.getElem?_take_of_lt hi2] at hn
      have hcj := hcell i (by omega)
      have e1 : (⟨b, o, none⟩ : Addr).add i = ⟨b, o + i, none⟩ := by unfold Addr.add; split <;> simp_all
      rw [e1, show zs.getD i 0 = n by simp [List.getD, hn]] at hcj
      rw [hcj]
      have hr := bounds_u8 (hwz n (List.mem_of_getElem? hn))
      simp only [bv, Option.some.injEq, Value.int.injEq, true_and]
      simp [UInt8.toNat_ofNat']
      omega
/-- A slice of structs in a cell. -/
theorem rows_in {fuel t e sz : Nat} {c : Value} {x : DataW H × List MemPlace} (ht : Tryz.prog.underlying t = some (.slice e)) (hsz : Tryz.prog.cellsOf e = sz) (h0 : 0 < sz) (h : DataW.trod enc Tryz.prog W 0 (fun _ => true) true fuel t [c] = some x) :
    ∃ (len n : Nat) (cells : Nat → List Value) (D : Nat → DataW H) (Pl : Nat → List MemPlace) (rest : Nat), n < fuel + 1 ∧ Lies W (fun _ => False) c len sz cells ∧ Rows.uptoBulkAll ((List.range len).map D) + rest + 1 = Rows.uptoBulk x.1 ∧
      ∀ i, i < len → DataW.trod enc Tryz.prog W 0 (fun _ => true) true n e (cells i) = some (D i, Pl i) := by
  have hfuel := h
  rcases DataW.trod_slice ht hfuel with ⟨hcs, rfl⟩ | ⟨a, len, cap, elems, rest, n, rfl, hcs, rfl, _, hl, _, hlen, hel, _, _⟩
  · obtain rfl : c = .slice none 0 0 := by simpa using hcs
    exact ⟨0, 0, fun _ => [], fun _ => .nil, fun _ => [], 0, by omega, ⟨none, 0, rfl, Nat.le_refl _, fun _ => ⟨rfl, rfl⟩, fun i hi => by omega⟩, by simp [Rows.uptoBulk, Rows.uptoBulkAll], fun i hi => by omega⟩
  · obtain rfl : c = .slice (some a) len cap := by simpa using hcs
    have each : ∀ i, i < len → ∃ cs', W.cells? 0 (a.add (i * sz)) sz = some cs' ∧ DataW.trod enc Tryz.prog W 0 (fun _ => true) true n e cs' = some (elems.getD i (.nil, [])) := by
      intro i hi
      have := hel i hi
      rw [List.getElem?_eq_getElem (by omega), hsz] at this
      obtain ⟨cs', h1, h2⟩ := Option.bind_eq_some_iff.1 this
      exact ⟨cs', h1, by rw [h2]; simp [List.getD, List.getElem?_eq_getElem (show i < elems.length by omega)]⟩
    obtain ⟨cells, hcells⟩ := Go.Deep.choose_lt each
    refine ⟨len, n, cells, fun i => (elems.getD i (.nil, [])).1, fun i => (elems.getD i (.nil, [])).2, Rows.uptoBulkAll (rest.map (·.1)), by omega, ⟨some a, cap, rfl, hl, (fun h => by cases h), fun i hi => ?_⟩, ?_, fun i hi => (hcells i hi).2⟩
    · obtain ⟨_, h2, h3⟩ := World.cells?_some (hcells i hi).1
      have hs : a.spot = none := by
        obtain ⟨_, k2, k3⟩ := World.cells?_some (hcells 0 (by omega)).1
        have k4 := k3 0 h0
        rw [Nat.zero_mul, show (a.add 0).add 0 = a by simp [Addr.add], List.getElem?_eq_getElem (by omega)] at k4
        cases hsp : a.spot with
        | none => rfl
        | some q =>
          unfold World.cell? at k4
          rw [hsp] at k4
          split at k4 <;> simp at k4
      obtain ⟨b, o, s⟩ := a
      simp only at hs
      subst hs
      have e1 : ∀ k, ((⟨b, o, none⟩ : Addr).add (i * sz)).add k = ⟨b, o + i * sz + k, none⟩ := by
        intro k
        rw [add_addr, add_addr]
      refine ⟨h2, b, o, rfl, id, ?_, fun k u hk => ?_⟩
      · have := h3 0 h0
        rw [e1, List.getElem?_eq_getElem (by omega)] at this
        exact cell_lt this
      · have hk2 := (List.getElem?_eq_some_iff.1 hk).1
        rw [← e1, h3 k (by omega), hk]
    · have e : (List.range len).map (fun i => (elems.getD i (.nil, [])).1) = elems.map (·.1) := by
        rw [Go.Deep.map_by_index elems (.nil, []) (·.1), hlen]
      simp only [e, Rows.uptoBulk]
theorem wf64 {n : Int} (h : (Lit.int .i64 n).wf = true) : IntKind.i64.wrap n = n := by
  have h2 := (Lit.wf_int_iff .i64 n).1 h
  simp [IntKind.min, IntKind.max, IntKind.bits, IntKind.signed] at h2
  simp only [IntKind.wrap, IntKind.bits, IntKind.signed]
  simp
  omega
theorem range_eq (n : Nat) : List.range n = List.range' 0 n := by rw [List.range_eq_range']
theorem cells5 : Tryz.prog.cellsOf 26 = 5 := by kernel_rfl
theorem cells2 : Tryz.prog.cellsOf 55 = 2 := by kernel_rfl
theorem cellsI : Tryz.prog.cellsOf 2 = 1 := by kernel_rfl
theorem cellsBo : Tryz.prog.cellsOf 4 = 1 := by kernel_rfl
theorem cellsU3 : Tryz.prog.cellsOf 53 = 1 := by kernel_rfl
theorem cellsBy : Tryz.prog.cellsOf 22 = 1 := by kernel_rfl
theorem cellsTr : Tryz.prog.cellsOf 23 = 1 := by kernel_rfl
theorem cellsTa : Tryz.prog.cellsOf 24 = 1 := by kernel_rfl
theorem list5 {α : Type} {l : List α} (h : l.length = 5) : ∃ a b c d e, l = [a, b, c, d, e] := by
  match l, h with
  | [a, b, c, d, e], _ => exact ⟨a, b, c, d, e, rfl⟩
theorem list2 {α : Type} {l : List α} (h : l.length = 2) : ∃ a b, l = [a, b] := by
  match l, h with
  | [a, b], _ => exact ⟨a, b, rfl⟩
theorem tag_in {fuel : Nat} {cs : List Value} {x : DataW H × List MemPlace} (h : DataW.trod enc Tryz.prog W 0 (fun _ => true) true fuel 55 cs = some x) :
    ∃ (k : Nat) (v : Value) (l : List UInt8), cs = [.int .u32 k, v] ∧ k < 4294967296 ∧ BytesRep0 W (fun _ => False) v l ∧ 1 + l.length ≤ Rows.uptoBulk x.1 := by
  obtain ⟨xs, n, _, rfl, hl, hlen, hf⟩ := DataW.trod_struct Tryz.underlying55 h
  rw [cells2] at hl
  obtain ⟨c0, c1, rfl⟩ := list2 hl
  obtain ⟨y0, y1, rfl⟩ := list2 hlen
  have f0 : DataW.trod enc Tryz.prog W 0 (fun _ => true) true n 53 (([c0, c1].drop 0).take (Tryz.prog.cellsOf 53)) = some y0 := hf 0 _ rfl
  have f1 : DataW.trod enc Tryz.prog W 0 (fun _ => true) true n 22 (([c0, c1].drop 1).take (Tryz.prog.cellsOf 22)) = some y1 := hf 1 _ rfl
  rw [cellsU3] at f0
  rw [cellsBy] at f1
  obtain ⟨k, hk, _, hw⟩ := DataW.trod_int Tryz.underlying53 f0
  obtain ⟨l, hr, hb⟩ := bytes_in (c := c1) f1
  obtain rfl : c0 = .int .u32 k := by simpa using hk
  have hk2 : 0 ≤ k ∧ k < 4294967296 := by
    simp only [Lit.wf, Bool.and_eq_true, decide_eq_true_eq] at hw
    have h1 := hw.1
    have h2 := hw.2
    simp [IntKind.min, IntKind.max, IntKind.bits, IntKind.signed] at h1 h2
    omega
  refine ⟨k.toNat, c1, l, by rw [Int.toNat_of_nonneg hk2.1], by omega, hr, ?_⟩
  simp only [Rows.uptoBulk, Rows.uptoBulkAll, List.map_cons, List.map_nil]
  omega
theorem tags_in {fuel : Nat} {c : Value} {x : DataW H × List MemPlace} (h : DataW.trod enc Tryz.prog W 0 (fun _ => true) true fuel 24 [c] = some x) :
    ∃ U : List (Nat × List UInt8), URep W (fun _ => False) c U ∧ G32 U ∧ usz U + 1 ≤ Rows.uptoBulk x.1 := by
  obtain ⟨len, n, cells, D, Pl, rest, hn, hL, hb, hel⟩ := rows_in Tryz.underlying24 cells2 (by omega) h
  have each : ∀ i, i < len → ∃ p : (Nat × List UInt8) × Value, cells i = [.int .u32 p.1.1, p.2] ∧ p.1.1 < 4294967296 ∧ BytesRep0 W (fun _ => False) p.2 p.1.2 ∧ 1 + p.1.2.length ≤ Rows.uptoBulk (D i) := by
    intro i hi
    obtain ⟨k, v, l, h1, h2, h3, h4⟩ := tag_in (hel i hi)
    exact ⟨((k, l), v), h1, h2, h3, h4⟩
  have : Inhabited ((Nat × List UInt8) × Value) := ⟨((0, []), undef)⟩
  obtain ⟨p, hp⟩ := Go.Deep.choose_lt each
  have hget : ∀ (i : Nat) (t : Nat × List UInt8), ((List.range len).map fun i => (p i).1)[i]? = some t → i < len ∧ t = (p i).1 := by
    intro i t ht
    have hi : i < len := by have := (List.getElem?_eq_some_iff.1 ht).1; simpa using this
    rw [List.getElem?_map, List.getElem?_range hi] at ht
    exact ⟨hi, (Option.some.inj ht).symm⟩
  refine ⟨(List.range len).map fun i => (p i).1, ⟨fun i => (p i).2, ?_, fun i t ht => ?_⟩, fun t ht => ?_, ?_⟩
  · rw [List.length_map, List.length_range]
    obtain ⟨A, c', h1, h2, h3, h4⟩ := hL
    refine ⟨A, c', h1, h2, h3, fun i hi => ?_⟩
    have key := h4 i hi
    rw [(hp i hi).1] at key
    have e : ((List.range len).map fun i => (p i).1)[i]? = some (p i).1 := by rw [List.getElem?_map, List.getElem?_range hi]; rfl
    dsimp only
    rw [e]
    exact key
  · obtain ⟨hi, rfl⟩ := hget i t ht
    exact ⟨(hp i hi).2.2.1, (hp i hi).2.1⟩
  · obtain ⟨i, hi0⟩ := List.getElem?_of_mem ht
    obtain ⟨hi, rfl⟩ := hget i t hi0
    exact (hp i hi).2.1
  · have e : usz ((List.range len).map fun i => (p i).1) = ((List.range len).map fun i => 1 + (p i).1.2.length).sum := by
      generalize List.range len = r
      induction r with
      | nil => rfl
      | cons x r ih => simp only [List.map_cons, usz, List.sum_cons, ih]
    have h1 := bulk_range D (fun i => if i < len then 1 + (p i).1.2.length else 0) len 0 (fun i hi => by
      have hi : i < len := by omega
      simp only [if_pos hi]
      exact (hp i hi).2.2.2)
    have e2 : ((List.range len).map fun i => 1 + (p i).1.2.length) = (List.range len).map fun i => if i < len then 1 + (p i).1.2.length else 0 :=
      List.map_congr_left fun i hi => by rw [if_pos (List.mem_range.1 hi)]
    rw [e, e2]
    rw [← range_eq] at h1
    omega
/-- A tree. -/
theorem tree_in : ∀ (fuel : Nat) (cs : List Value) (x : DataW H × List MemPlace), DataW.trod enc Tryz.prog W 0 (fun _ => true) true fuel 26 cs = some x → Rows.uptoBulk x.1 ≤ 1048576 →
    ∃ (t : Tree) (n : Nat), TRep W (fun _ => False) cs t ∧ TOk G32 t ∧ TB t n ∧ n ≤ Rows.uptoBulk x.1 := by
  intro fuel
  induction fuel using Nat.strongRecOn with
  | ind fuel ih =>
    intro cs x h hbound
    obtain ⟨xs, n, rfl, rfl, hl, hlen, hf⟩ := DataW.trod_struct Tryz.underlying26 h
    rw [cells5] at hl
    obtain ⟨c0, c1, c2, c3, c4, rfl⟩ := list5 hl
    obtain ⟨y0, y1, y2, y3, y4, rfl⟩ := list5 hlen
    have f0 : DataW.trod enc Tryz.prog W 0 (fun _ => true) true n 2 (([c0, c1, c2, c3, c4].drop 0).take (Tryz.prog.cellsOf 2)) = some y0 := hf 0 _ rfl
    have f1 : DataW.trod enc Tryz.prog W 0 (fun _ => true) true n 22 (([c0, c1, c2, c3, c4].drop 1).take (Tryz.prog.cellsOf 22)) = some y1 := hf 1 _ rfl
    have f2 : DataW.trod enc Tryz.prog W 0 (fun _ => true) true n 4 (([c0, c1, c2, c3, c4].drop 2).take (Tryz.prog.cellsOf 4)) = some y2 := hf 2 _ rfl
    have f3 : DataW.trod enc Tryz.prog W 0 (fun _ => true) true n 23 (([c0, c1, c2, c3, c4].drop 3).take (Tryz.prog.cellsOf 23)) = some y3 := hf 3 _ rfl
    have f4 : DataW.trod enc Tryz.prog W 0 (fun _ => true) true n 24 (([c0, c1, c2, c3, c4].drop 4).take (Tryz.prog.cellsOf 24)) = some y4 := hf 4 _ rfl
    rw [cellsI] at f0
    rw [cellsBy] at f1
    rw [cellsBo] at f2
    rw [cellsTr] at f3
    rw [cellsTa] at f4
    obtain ⟨N, hN, _, hw⟩ := DataW.trod_int Tryz.underlying2 f0
    obtain rfl : c0 = .int .i64 N := by simpa using hN
    obtain ⟨S, hS, hSb⟩ := bytes_in (c := c1) f1
    obtain ⟨b, hb, _⟩ := DataW.trod_bool Tryz.underlying4 f2
    obtain rfl : c2 = .bool b := by simpa using hb
    obtain ⟨len, m, cells, D, Pl, rest, hm, hL, hLb, hel⟩ := rows_in (c := c3) Tryz.underlying23 cells5 (by omega) f3
    obtain ⟨U, hU, hG, hUb⟩ := tags_in (c := c4) f4
    have hall : Rows.uptoBulk y0.1 + (Rows.uptoBulk y1.1 + (Rows.uptoBulk y2.1 + (Rows.uptoBulk y3.1 + Rows.uptoBulk y4.1))) + 1 ≤ 1048576 := by
      simpa [Rows.uptoBulk, Rows.uptoBulkAll] using hbound
    have hDle : ∀ i, i < len → Rows.uptoBulk (D i) ≤ Rows.uptoBulkAll ((List.range len).map D) := by
      intro i hi
      have hmem : D i ∈ (List.range len).map D := List.mem_map.2 ⟨i, List.mem_range.2 hi, rfl⟩
      generalize (List.range len).map D = l at hmem
      induction l with
      | nil => cases hmem
      | cons y r ih2 =>
        simp only [Rows.uptoBulkAll]
        rcases List.mem_cons.1 hmem with h1 | h1
        · rw [h1]; omega
        · have := ih2 h1; omega
    have each : ∀ i, i < len → ∃ p : Tree × Nat, TRep W (fun _ => False) (cells i) p.1 ∧ TOk G32 p.1 ∧ TB p.1 p.2 ∧ p.2 ≤ Rows.uptoBulk (D i) := by
      intro i hi
      have := hDle i hi
      obtain ⟨t, q, h1, h2, h3, h4⟩ := ih m (by omega) (cells i) _ (hel i hi) (by show Rows.uptoBulk (D i) ≤ _; omega)
      exact ⟨(t, q), h1, h2, h3, h4⟩
    have : Inhabited (Tree × Nat) := ⟨(.zero, 0)⟩
    obtain ⟨p, hp⟩ := Go.Deep.choose_lt each
    have hget : ∀ (i : Nat) (t : Tree), ((List.range len).map fun i => (p i).1)[i]? = some t → i < len ∧ t = (p i).1 := by
      intro i t ht
      have hi : i < len := by have := (List.getElem?_eq_some_iff.1 ht).1; simpa using this
      rw [List.getElem?_map, List.getElem?_range hi] at ht
      exact ⟨hi, (Option.some.inj ht).symm⟩
    have hns := bulk_range D (fun i => if i < len then (p i).2 else 0) len 0 (fun i hi => by
      have hi : i < len := by omega
      simp only [if_pos hi]
      exact (hp i hi).2.2.2)
    rw [← range_eq] at hns
    have e2 : ((List.range len).map fun i => (p i).2) = (List.range len).map fun i => if i < len then (p i).2 else 0 :=
      List.map_congr_left fun i hi => by rw [if_pos (List.mem_range.1 hi)]
    have hlen2 : len ≤ Rows.uptoBulkAll ((List.range len).map D) := by
      have := bulk_range D (fun _ => 1) len 0 (fun i _ => bulk_one _)
      rw [← range_eq] at this
      have e : ((List.range len).map fun _ : Nat => 1).sum = len := by
        rw [List.map_const', List.length_range, List.sum_replicate_nat]
        omega
      omega
    refine ⟨.mk N S b ((List.range len).map fun i => (p i).1) U, 1 + S.length + ((List.range len).map fun i => (p i).2).sum + usz U, ?_, ?_, ?_, ?_⟩
    · refine .mk N S b _ U c1 c3 c4 cells (wf64 hw) hS ?_ hU (fun i t ht => ?_)
      · rw [List.length_map, List.length_range]; exact hL
      · obtain ⟨hi, rfl⟩ := hget i t ht
        exact (hp i hi).1
    · refine .mk _ _ _ _ _ (max_lim (by omega)) (by rw [List.length_map, List.length_range]; exact max_lim (by omega)) hG (fun u hu => ?_)
      obtain ⟨i, hi, rfl⟩ := List.mem_map.1 hu
      exact (hp i (List.mem_range.1 hi)).2.1
    · refine .mk _ _ _ _ _ ((List.range len).map fun i => (p i).2) _ (by simp) (fun i t q h1 h2 => ?_) (Nat.le_refl _)
      obtain ⟨hi, rfl⟩ := hget i t h1
      rw [List.getElem?_map, List.getElem?_range hi] at h2
      obtain rfl := Option.some.inj h2
      exact (hp i hi).2.2.1
    · simp only [Rows.uptoBulk, Rows.uptoBulkAll, List.map_cons, List.map_nil]
      rw [e2]
      omega
end
end Go.Proofs.YthejiimocbfagabGreatDoor
