/-
  A header of a record, and a slice of bytes, that came in, as the walks want them.
-/
import Derived.Test.YthejiimocbfagaaHdr4
import Derived.ChangeSlices
import Derived.ChangeArms
import Derived.ChangeMaps
import Derived.OpenShut
import Derived.WalkKit
import Derived.WideShapes
set_option linter.unusedVariables false
set_option linter.unusedSimpArgs false
namespace Go.Proofs.Ythejiimocbfagaa
open Go Go.RowKit Go.Proofs.Eng Go.WideShapes Go.ChangeShapes
set_option maxRecDepth 20000
theorem gtM (n : Nat) : cmp .gtr (n : Int) 2147483647 = some (decide ((n : Int) > 2147483647)) := rfl
theorem cell_lt0 {w : World} {a : Addr} {v : Value} (h : w.cell? a = some v) : a.block < w.heap.size := by
  unfold World.cell? at h
  split at h
  · rename_i hh
    exact lt_of_some hh
  · cases h
theorem bytes_in0 {H : Type} {enc : TypeId × Value → H} {P : Program} {W : World} {t e : TypeId} (ht : P.underlying t = some (.slice e)) (he : P.underlying e = some (.int .u8)) (hc : P.cellsOf e = 1) {fuel : Nat} {c : Value} {x : DataW H × List MemPlace}
    (h : DataW.trod enc P W 0 (fun _ => true) true fuel t [c] = some x) : ∃ l : List UInt8, BytesRep0 W (fun _ => False) c l := by
  rcases open_ints ht he hc h with ⟨hcs, _⟩ | ⟨a, len, cap, zs, hcs, _, hl, _, hz, _, hcell, hwz⟩
  · obtain rfl : c = .slice none 0 0 := by simpa using hcs
    exact ⟨[], .inl ⟨⟨_, rfl⟩, rfl⟩⟩
  · obtain rfl : c = .slice (some a) len cap := by simpa using hcs
    simp only [if_true] at hz
    by_cases h0 : cap = 0
    · subst h0
      obtain rfl : len = 0 := by omega
      exact ⟨[], .inl ⟨⟨_, rfl⟩, rfl⟩⟩
    · have hc0 := hcell 0 (by omega)
      obtain ⟨b, o, s⟩ := a
      have e0 : (⟨b, o, s⟩ : Addr).add 0 = ⟨b, o, s⟩ := by simp [Addr.add]
      rw [e0] at hc0
      have hs : s = none := by
        cases s with
        | none => rfl
        | some q =>
          unfold World.cell? at hc0
          split at hc0 <;> simp at hc0
      subst hs
      refine ⟨(zs.take len).map fun n => UInt8.ofNat n.toNat, .inr ⟨b, o, len, cap, rfl, id, cell_lt0 hc0, by simp; omega, hl, fun i x hi => ?_⟩⟩
      rw [List.getElem?_map, Option.map_eq_some_iff] at hi
      obtain ⟨n, hn, rfl⟩ := hi
      have hi2 : i < len := by have := (List.getElem?_eq_some_iff.1 hn).1; simp at this; omega
      rw [List.getElem?_take_of_lt hi2] at hn
      have hcj := hcell i (by omega)
      have e1 : (⟨b, o, none⟩ : Addr).add i = ⟨b, o + i, none⟩ := by unfold Addr.add; split <;> simp_all
      rw [e1, show zs.getD i 0 = n by simp [List.getD, hn]] at hcj
      rw [hcj]
      have hr := bounds_u8 (hwz n (List.mem_of_getElem? hn))
      simp only [bv, Option.some.injEq, Value.int.injEq, true_and]
      simp [UInt8.toNat_ofNat']
      omega
section
variable {H : Type} {enc : TypeId × Value → H} {W : World}
theorem octets_in {fuel : Nat} {cs : List Value} {x : DataW H × List MemPlace} (h : DataW.trod enc Try.prog W 0 (fun _ => true) true fuel 32 cs = some x) : ∃ (nl : Bool) (v : Value) (l : List UInt8), cs = [.bool nl, v] ∧ BytesRep0 W (fun _ => False) v l := by
  obtain ⟨y0, y1, n, rfl, hl, f0, f1⟩ := trod_struct2 Try.underlying32 h
  rw [show Try.prog.cellsOf 32 = 2 by kernel_rfl] at hl
  match cs, hl with
  | [c0, c1], _ =>
    have f0 : DataW.trod enc Try.prog W 0 (fun _ => true) true n 4 (([c0, c1].drop 0).take (Try.prog.cellsOf 4)) = some y0 := f0
    have f1 : DataW.trod enc Try.prog W 0 (fun _ => true) true n 22 (([c0, c1].drop 1).take (Try.prog.cellsOf 22)) = some y1 := f1
    rw [show Try.prog.cellsOf 4 = 1 by kernel_rfl] at f0
    rw [show Try.prog.cellsOf 22 = 1 by kernel_rfl] at f1
    obtain ⟨b, hb, _⟩ := DataW.trod_bool Try.underlying4 f0
    obtain rfl : c0 = .bool b := by simpa using hb
    obtain ⟨l, hr⟩ := bytes_in0 Try.underlying22 Try.underlying5 (by kernel_rfl) (c := c1) f1
    exact ⟨b, c1, l, rfl, hr⟩
theorem header_in {fuel : Nat} {cs : List Value} {x : DataW H × List MemPlace} (h : DataW.trod enc Try.prog W 0 (fun _ => true) true fuel 34 cs = some x) : ∃ (s : ByteArray) (nl : Bool) (v : Value) (l : List UInt8), cs = [.string s, .bool nl, v] ∧ BytesRep0 W (fun _ => False) v l := by
  obtain ⟨y0, y1, n, rfl, hl, f0, f1⟩ := trod_struct2 Try.underlying34 h
  rw [show Try.prog.cellsOf 34 = 3 by kernel_rfl] at hl
  match cs, hl with
  | [c0, c1, c2], _ =>
    have f0 : DataW.trod enc Try.prog W 0 (fun _ => true) true n 9 (([c0, c1, c2].drop 0).take (Try.prog.cellsOf 9)) = some y0 := f0
    have f1 : DataW.trod enc Try.prog W 0 (fun _ => true) true n 32 (([c0, c1, c2].drop 1).take (Try.prog.cellsOf 32)) = some y1 := f1
    rw [show Try.prog.cellsOf 9 = 1 by kernel_rfl] at f0
    rw [show Try.prog.cellsOf 32 = 2 by kernel_rfl] at f1
    obtain ⟨s, hs, _, _⟩ := DataW.trod_string Try.underlying9 f0
    obtain rfl : c0 = .string s := by simpa using hs
    obtain ⟨nl, v, l, hv, hr⟩ := octets_in (cs := [c1, c2]) f1
    simp only [List.cons.injEq, and_true] at hv
    obtain ⟨rfl, rfl⟩ := hv
    exact ⟨s, nl, _, l, rfl, hr⟩
end
end Go.Proofs.Ythejiimocbfagaa
