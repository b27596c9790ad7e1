/-
  Tags are written by rising numbers: the keys are collected, sorted, and each tag is appended.
-/
import Derived.Test.YtbcfmhgcpijfnaaDoorTagEach
import Derived.Test.YtbcfmhgcpijfnaaDoorTags0
import Derived.Test.YtbcfmhgcpijfnaaDoorRK3
import Derived.Test.YtbcfmhgcpijfnaaDoorLay
import Derived.Deep.QuietTactic
import Derived.Lib.RowBridge
import Derived.Sort.LotA
import Derived.WalkKit
set_option linter.unusedVariables false
set_option linter.unusedSimpArgs false
namespace Go.Proofs.YtbcfmhgcpijfnaaDoor
open Go Go.RowKit Go.Proofs.Eng Go.Sort Go.Lib Go.MapKept
open Go.ChangeMaps (setBlock)
set_option maxRecDepth 20000
set_option maxHeartbeats 4000000

/-! ## the sort -/
theorem u32K (n : Nat) (h2 : 2 ≤ n) : Lib.swapperK n Tryd.t64 10 = 6 := by
  have a : Tryd.t64.hasPointers = false := by kernel_rfl
  have b : Tryd.t64.bytes = 4 := by kernel_rfl
  have c : (n == 0) = false := by simp; omega
  have d : (n == 1) = false := by simp; omega
  simp [Lib.swapperK, a, b, c, d]
theorem less_tags (blk c Bs size : Nat) (W : World) (G : Nat → Int) (hs : W.cell? ⟨Bs, 0, none⟩ = some (.slice (some ⟨blk, 0, none⟩) size c)) (hc : ∀ t, t < size → W.cell? ⟨blk, t, none⟩ = some (.int .u32 (G t))) (i j : Nat) (hi : i < size) (hj : j < size) :
    Calls Tryd.prog 66 #[.int .i64 i, .int .i64 j, .pointer (some ⟨Bs, 0, none⟩)] W fun e w' => e = .returned (.bool (decide (G i < G j))) ∧ ∃ q, w' = W.drewN q := by
  have ci := hc i hi
  have cj := hc j hj
  go_enter Tryd.func66, Tryd.ntmps66
  go_wp2
  go_quiet (fail)
  go_wp2
  go_ret
  exact ⟨rfl, nq, rfl⟩
theorem heap_put {α : Type} [Inhabited α] {enc : α → Value} {w : World} {g n : Nat} {e : TypeId} {os : Array Obj} {cur : Array Value} (d : Array α) (hb : w.heap[g]? = some (.cells cur e (0, 0))) :
    (grow (putRow enc (Sort.ahead w n) g 0 d) os).heap[g]? = some (.cells (putCells enc 0 d cur) e (0, 0)) ∧ w.grownBy (grow (putRow enc (Sort.ahead w n) g 0 d) os) (some g) := by
  have hlt : g < w.heap.size := lt_of_some hb
  have hv : w.heap[g] = .cells cur e (0, 0) := (Array.getElem?_eq_some_iff.1 hb).2
  refine ⟨?_, ⟨rfl, rfl, rfl, by simp, fun k hk hne => ?_⟩⟩
  · rw [heap_grow_old _ _ (by simpa using hlt)]
    show (w.heap.modify g (onCells (putCells enc 0 d)))[g]? = _
    rw [Array.getElem?_modify, if_pos rfl, hb]
    rfl
  · rw [heap_grow_old _ _ (by simpa using hk)]
    have : g ≠ k := fun e => hne (by rw [e])
    simp [putRow, mapBlock, Sort.ahead, Array.getElem?_modify, this]
theorem take_put {α : Type} [Inhabited α] (enc : α → Value) (cur : Array Value) (d : Array α) (h : d.size ≤ cur.size) : (putCells enc 0 d cur).toList.take d.size = d.toList.map enc := by
  apply List.ext_getElem?
  intro j
  by_cases hj : j < d.size
  · rw [List.getElem?_take_of_lt hj, Array.getElem?_toList]
    have hc : j < cur.size := by omega
    simp [putCells, hj, hc]
  · rw [List.getElem?_eq_none (by simp; omega), List.getElem?_eq_none (by simp; omega)]
theorem one_sorted {l : List Int} (h : l.length = 1) : l.Pairwise (fun a b => a ≤ b) := by
  match l, h with
  | [x], _ => simp
theorem c_sort (w : World) (blk c Bs : Nat) (ks : List Int) (cur : Array Value) (hb : w.heap[blk]? = some (.cells cur 64 (0, 0))) (hcur : cur.toList.take ks.length = ks.map (Value.int .u32)) (hlen : ks.length ≤ cur.size) (h1 : 1 ≤ ks.length) (hsz : ks.length < 4611686018427387904)
    (hBs : w.heap[Bs]? = some (.cells #[.slice (some ⟨blk, 0, none⟩) ks.length c] 66 (0, 0))) :
    Calls Tryd.prog 65 #[.iface 66 (.slice (some ⟨blk, 0, none⟩) ks.length c), .func (.func 66) #[] #[.pointer (some ⟨Bs, 0, none⟩)]] w fun e w' => e = .returned (.tuple #[]) ∧
      ∃ (ks' : List Int) (cur' : Array Value), ks'.Perm ks ∧ ks'.Pairwise (fun a b => a ≤ b) ∧ w'.heap[blk]? = some (.cells cur' 64 (0, 0)) ∧ cur'.toList.take ks.length = ks'.map (Value.int .u32) ∧ w.grownBy w' (some blk) := by
  have hne : Bs ≠ blk := fun e => by
    subst e
    rw [hb] at hBs
    simp only [Option.some.injEq, Obj.cells.injEq] at hBs
    exact absurd hBs.2.1 (by decide)
  have hcell : ∀ j, j < ks.toArray.size → w.cell? ⟨blk, 0 + j, none⟩ = some (.int .u32 ks.toArray[j]!) ∧ w.frozen? ⟨blk, 0 + j, none⟩ = false := by
    intro j hj
    have hj' : j < ks.length := by simpa using hj
    refine ⟨?_, by simp [World.frozen?, hb]⟩
    rw [Nat.zero_add]
    refine cell_blk hb ?_
    have h2 : (cur.toList.take ks.length)[j]? = (ks.map (Value.int .u32))[j]? := by rw [hcur]
    rw [List.getElem?_take_of_lt hj', List.getElem?_map, List.getElem?_eq_getElem hj'] at h2
    rw [h2]
    simp [hj']
  by_cases h2 : 2 ≤ ks.length
  · have hH : Holds (Value.int .u32) w blk 0 ks.toArray := hcell
    have hblk : blk < w.heap.size := lt_of_some hb
    have hless : LessReads Tryd.prog 66 #[.pointer (some ⟨Bs, 0, none⟩)] (Value.int .u32) ltInt blk 0 ks.toArray.size w := by
      intro m os dk hs i j hi hj
      have e : sortWorld (Value.int .u32) w blk 0 m dk os = putRow (Value.int .u32) (grow (Sort.ahead w m) os) blk 0 dk := by
        unfold sortWorld; rw [putRow_grow _ (Sort.ahead w m) _ blk 0 _ hblk]
      have hHg : Holds (Value.int .u32) (grow (Sort.ahead w m) os) blk 0 ks.toArray := holds_grow _ _ _ blk 0 ks.toArray hblk (holds_ahead _ _ _ _ _ _ hH)
      refine less_tags blk c Bs ks.toArray.size _ (fun t => dk[t]!) ?_ (fun t ht => ?_) i j hi hj
      · rw [e, cell?_putRow_other _ _ blk 0 dk _ (Or.inl hne), cell?_grow _ _ _ (by show Bs < (Sort.ahead w m).heap.size; exact lt_of_some hBs)]
        show w.cell? ⟨Bs, 0, none⟩ = _
        rw [List.size_toArray]
        exact cell_blk hBs rfl
      · have h3 := cell?_putRow _ _ blk 0 ks.toArray dk hHg hs t (by omega)
        rw [Nat.zero_add] at h3
        rw [e]; exact h3
    have hS := Any.sort_Slice_sorted sl6 66 64 Tryd.t66 Tryd.t64 (by kernel_rfl) (by kernel_rfl) (by kernel_rfl) (by kernel_rfl) 10 (fun _ => by kernel_rfl) (by kernel_rfl) (fun _ => by kernel_rfl) (Value.int .u32) (fun _ => rfl) ltInt swo_ltInt 66 _
      Tryd.call66 blk 0 c ks.toArray (by simpa using h2) (by simpa using hsz) 78 (by rw [u32K _ (by simpa using h2)]; kernel_rfl) true
      (fun args W => run_callFunc_extern Tryd.func78 (by kernel_rfl) (by kernel_rfl) (by kernel_rfl) (e := Extern.ReflectliteSwapper.swap true) (by kernel_rfl) args W) w hless hH hblk
    rw [List.size_toArray] at hS
    refine Calls.mono (P := Tryd.prog) hS ?_
    rintro e w' ⟨rfl, d', n, os, hp, hso, rfl⟩
    have hsd : d'.size = ks.length := by rw [hp.1]; simp
    obtain ⟨g1, g2⟩ := heap_put (enc := Value.int .u32) (n := n) (os := os) d' hb
    have hperm : d'.toList.Perm ks := by
      have := hp.2.2
      rw [show d'.extract 0 ks.length = d' from by rw [← hsd]; simp, show (ks.toArray).extract 0 ks.length = ks.toArray from by simp] at this
      simpa using this
    refine ⟨rfl, d'.toList, _, hperm, ?_, g1, by rw [← hsd]; exact take_put _ _ _ (by omega), g2⟩
    rw [List.pairwise_iff_getElem]
    intro i j hi hj hij
    have := hso i j (Nat.zero_le _) hij (by rw [← hsd]; simpa using hj)
    simp only [ltInt, decide_eq_false_iff_not] at this
    have e1 : d'[i]! = d'.toList[i] := by simp at hi; simp [hi]
    have e2 : d'[j]! = d'.toList[j] := by simp at hj; simp [hj]
    rw [e1, e2] at this
    omega
  · have hl1 : ks.length = 1 := by omega
    have hK : Lib.swapperK 1 Tryd.t64 10 = 2 := by simp [Lib.swapperK]
    have hS := Any.sort_Slice_tiny sl6 66 64 Tryd.t66 Tryd.t64 (by kernel_rfl) (by kernel_rfl) (by kernel_rfl) (by kernel_rfl) 10 (fun _ => by kernel_rfl) (some ⟨blk, 0, none⟩) ks.length c (by omega) 74 (by
      rw [hl1, hK]; kernel_rfl) (.func 66) #[] #[.pointer (some ⟨Bs, 0, none⟩)] w
    refine Calls.mono (P := Tryd.prog) hS ?_
    rintro e w' ⟨rfl, os, rfl⟩
    refine ⟨rfl, ks, cur, List.Perm.refl _, ?_, (heap_grow_old _ _ (lt_of_some hb)).trans hb, hcur, ⟨rfl, rfl, rfl, by simp, fun k hk _ => heap_grow_old _ _ hk⟩⟩
    exact one_sorted hl1
end Go.Proofs.YtbcfmhgcpijfnaaDoor
