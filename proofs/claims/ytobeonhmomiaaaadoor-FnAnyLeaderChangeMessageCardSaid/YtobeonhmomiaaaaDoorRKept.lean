/-
  Messages that say their version themselves, in their first two bytes: which schema reads the rest goes by that number.
-/
import Derived.Test.YtobeonhmomiaaaaDoorRConf
set_option linter.unusedVariables false
set_option linter.unusedSimpArgs false
namespace Go.Proofs.Eng
open Go Go.RowKit

def verOf (src : List UInt8) : Int := (rI .i16 2 ⟨srcO src, false⟩).1
def againK (cls : Int → Sch) (d : List CV) (src : List UInt8) : Option (List UInt8) := againR (.prim .i16 0 (cls (verOf src))) d src
theorem verOf_be (x : Int) (hx : IntKind.i16.wrap x = x) (r : List UInt8) : verOf (be 2 x ++ r) = x := by
  have h := rI_read kb_i16 x hx r ⟨some (be 2 x ++ r), false⟩ rfl rfl
  have e : srcO (be 2 x ++ r) = some (be 2 x ++ r) := rfl
  unfold verOf
  rw [e, h]
theorem anyK_ok {cls : Int → Sch} {d : List CV} {src a : List UInt8} (hS : ∀ x, SOk (.prim .i16 0 (cls x)) 0 d.length = true) (h : againK cls d src = some a) (hl : src.length < 2000000000) : againK cls d a = some a ∧ a.length ≤ 32 * src.length := by
  have hany := any_ok (hS _) h hl
  refine ⟨?_, hany.2⟩
  have hv : verOf a = verOf src := by
    unfold againK againR at h
    split at h
    · rename_i out s' h1
      split at h
      · cases h
      · rename_i hb
        cases h
        have hb : s'.bad = false := by simpa using hb
        have hS0 := hS (verOf src)
        simp only [SOk, Bool.and_eq_true] at hS0
        simp only [rOf, runR] at h1
        have hb1 := runR_bad _ _ _ _ _ h1 hb
        have hok := (wr_prim .i16 ⟨srcO src, false⟩ [] hb1).1
        have hlen : ((rprim .i16 ⟨srcO src, false⟩).2.rest).length < 2000000000 := by
          have := wb_prim .i16 ⟨srcO src, false⟩ hb1
          rw [srcO_rest] at this
          omega
        obtain ⟨b, h2, _⟩ := wb_of_rd _ _ _ _ _ _ _ hS0.2 h1 hb hlen
        have hRW : RW (.prim .i16 0 (cls (verOf src))) d (wprim .i16 (rprim .i16 ⟨srcO src, false⟩).1 ++ b) out := ⟨_, b, hok, rfl, h2⟩
        rw [(runW_of _ 0 d.length d _ out (hS _) rfl hRW).2.2]
        obtain ⟨n, hn, e⟩ := hok
        have e2 : (rprim .i16 ⟨srcO src, false⟩).1 = [.int .i16 (verOf src)] := rfl
        rw [e2] at e
        simp only [List.cons.injEq, CV.int.injEq, true_and, and_true] at e
        rw [e2]
        exact verOf_be _ (by rw [e]; exact hn) b
    · cases h
  unfold againK
  rw [hv]
  exact hany.1
theorem againK_ok {cls : Int → Sch} {d : List CV} {x : Int} {b : List UInt8} {out : List CV} (hS : ∀ x, SOk (.prim .i16 0 (cls x)) 0 d.length = true) (hx : IntKind.i16.wrap x = x) (h : RW (cls x) (setAt d 0 [.int .i16 x]) b out) : againK cls d (be 2 x ++ b) = some (be 2 x ++ b) := by
  unfold againK
  rw [verOf_be x hx b]
  exact again_ok (hS x) (out := out) ⟨[.int .i16 x], b, ⟨x, hx, rfl⟩, rfl, h⟩
theorem cutK_ok {cls : Int → Sch} {d : List CV} {x : Int} {b : List UInt8} {out : List CV} (hS : ∀ x, SOk (.prim .i16 0 (cls x)) 0 d.length = true) (hx : IntKind.i16.wrap x = x) (h : RW (cls x) (setAt d 0 [.int .i16 x]) b out) (n : Nat) (hn : n < (be 2 x ++ b).length) (hl : (be 2 x ++ b).length < 2000000000) :
    againK cls d ((be 2 x ++ b).take n) = none := by
  by_cases h2 : 2 ≤ n
  · obtain ⟨m, rfl⟩ : ∃ m, n = 2 + m := ⟨n - 2, by omega⟩
    have e : (be 2 x ++ b).take (2 + m) = be 2 x ++ b.take m := by
      rw [List.take_append, List.take_of_length_le (by rw [be_length]; omega), be_length]
      congr 2
      omega
    have hc := cut_ok (hS x) (out := out) (b := be 2 x ++ b) ⟨[.int .i16 x], b, ⟨x, hx, rfl⟩, rfl, h⟩ (2 + m) hn hl
    unfold againK
    rw [e] at hc ⊢
    rw [verOf_be x hx]
    exact hc
  · have hl2 : ((be 2 x ++ b).take n).length < 2 := by rw [List.length_take]; omega
    unfold againK againR
    have hbad : (rprim .i16 ⟨srcO ((be 2 x ++ b).take n), false⟩).2.bad = true := by
      show (rI .i16 2 ⟨srcO ((be 2 x ++ b).take n), false⟩).2.bad = true
      unfold rI rNat
      rw [srcO_rest, if_pos hl2]
      rfl
    split
    · rename_i out' s' h1
      simp only [rOf, runR] at h1
      cases hb : s'.bad with
      | true => rfl
      | false =>
        have := runR_bad _ _ _ _ _ h1 hb
        rw [this] at hbad
        cases hbad
    · rfl
end Go.Proofs.Eng
