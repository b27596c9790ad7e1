/-
  A slice of bytes that came in, as the walks want it.
-/
import Derived.Test.YtbcfmhgcpijfnaaDoorPA
import Derived.ChangeSlices
import Derived.OpenShut
import Derived.WalkKit
import Derived.WideShapes
set_option linter.unusedVariables false
set_option linter.unusedSimpArgs false
namespace Go.Proofs.Eng
open Go Go.WideShapes Go.ChangeShapes

theorem bytes_open {H : Type} {enc : TypeId × Value → H} {P : Program} {W : World} {base : Nat} {t e : TypeId} {v : Value} {d : DataW H} {p : List MemPlace} (ht : P.underlying t = some (.slice e)) (he : P.underlying e = some (.int .u8)) (hc : P.cellsOf e = 1)
    (hval : Value.okWide P W .any base t v) (h : DataW.Trod enc P W 0 (fun _ => true) true t v d p) : ∃ l : List UInt8, BytesRep0 W (fun _ => False) v l := by
  obtain ⟨a1, len, cap, rfl⟩ := okWide_slice ht hval
  obtain ⟨fuel, hf⟩ := h
  have hok : a1 = none ∨ ∃ b o, a1 = some ⟨b, o, none⟩ ∧ b < W.heap.size := by
    cases a1 with
    | none => exact .inl rfl
    | some a =>
      refine .inr ?_
      simp only [Value.okWide, ht, Cell.okWide, Cell.ok] at hval
      obtain ⟨_, _, _, hsp, row, cells, hsh, _⟩ := hval
      obtain ⟨b, o, sp⟩ := a
      simp only at hsp hsh
      subst hsp
      refine ⟨b, o, rfl, ?_⟩
      unfold World.shape? at hsh
      rcases Nat.lt_or_ge b W.heap.size with h | h
      · exact h
      · rw [Array.getElem?_eq_none h] at hsh
        cases hsh
  rcases open_ints ht he hc hf with ⟨hcs, hx⟩ | ⟨a, len', cap', zs, hcs, _, hl, hm, hz, hx, hcell, hwz⟩
  · simp [Value.cells] at hcs
    obtain ⟨rfl, rfl, rfl⟩ := hcs
    exact ⟨[], .inl ⟨⟨_, rfl⟩, rfl⟩⟩
  · simp [Value.cells] at hcs
    obtain ⟨rfl, rfl, rfl⟩ := hcs
    simp only [if_true] at hz
    rcases hok with h0 | ⟨b, o, h0, hb⟩
    · cases h0
    · cases h0
      refine ⟨(zs.take len).map fun n => UInt8.ofNat n.toNat, .inr ⟨b, o, len, cap, rfl, id, hb, by simp; omega, hl, fun i x hi => ?_⟩⟩
      rw [List.getElem?_map, Option.map_eq_some_iff] at hi
      obtain ⟨n, hn, rfl⟩ := hi
      have hi2 : i < len := by have := (List.getElem?_eq_some_iff.1 hn).1; simp at this; omega
      rw [List.getElem?_take_of_lt hi2] at hn
      have hcj := hcell i (by omega)
      have e1 : (⟨b, o, none⟩ : Addr).add i = ⟨b, o + i, none⟩ := by unfold Addr.add; split <;> simp_all
      rw [e1, show zs.getD i 0 = n by simp [List.getD, hn]] at hcj
      rw [hcj]
      have hr := bounds_u8 (hwz n (List.mem_of_getElem? hn))
      simp only [bv, Option.some.injEq, Value.int.injEq, true_and]
      simp [UInt8.toNat_ofNat']
      omega
end Go.Proofs.Eng
