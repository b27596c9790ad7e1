/-
  Several texts in one: RSem, RTheory, RPrim, RSch, RSch2, RSch3, RSpec, RSpec2, REq, RSch4, RBulk.
-/
import Derived.Test.YthelpljefckgkaaDoorPA
import Derived.Test.YthelpljefckgkaaDoorEngE
set_option linter.unusedVariables false
set_option linter.unusedSimpArgs false
/-! The rules of reading as plain functions over lists. -/
namespace Go.Proofs.Eng
open Go

/-- A reader: what is left (none: nil), and whether it ran out. -/
structure RS where
  src : Option (List UInt8)
  bad : Bool
def RS.rest (s : RS) : List UInt8 := match s.src with
  | some l => l
  | none => []
def RS.fail : RS := ⟨none, true⟩
def beNat (l : List UInt8) : Nat := l.foldl (fun a b => a * 256 + b.toNat) 0
def rNat (k : Nat) (s : RS) : Nat × RS := if s.rest.length < k then (0, .fail) else (beNat (s.rest.take k), ⟨some (s.rest.drop k), s.bad⟩)
def rSpan (l : Int) (s : RS) : Option (List UInt8) × RS :=
  if (s.rest.length : Int) < l ∨ l < 0 then (none, .fail) else match s.src with
  | none => (none, s)
  | some b => (some (b.take l.toNat), ⟨some (b.drop l.toNat), s.bad⟩)
def rUvL : Nat → Nat → Nat → List UInt8 → Option (Nat × List UInt8)
  | _, _, _, [] => none
  | 0, m, x, a :: r => if a.toNat ≤ 15 then some (x + a.toNat * m, r) else none
  | i + 1, m, x, a :: r => if a.toNat < 128 then some (x + a.toNat * m, r) else rUvL i (m * 128) (x + (a.toNat - 128) * m) r
def rUv (s : RS) : Nat × RS := match rUvL 4 1 0 s.rest with
  | some (x, r) => (x, ⟨some r, s.bad⟩)
  | none => (0, .fail)
def rI (k : IntKind) (n : Nat) (s : RS) : Int × RS := let (x, t) := rNat n s; (k.wrap x, t)
def orNil (b : Option (List UInt8)) : List UInt8 := match b with
  | some l => l
  | none => []
/-- A compact length. -/
def rCl (s : RS) : Int × RS := let (x, t) := rUv s; ((x : Int) - 1, t)
def rStr (l : Int × RS) : List CV × RS := let (b, t) := rSpan l.1 l.2; ([.str (orNil b)], t)
def rNstr (l : Int × RS) : List CV × RS := if l.1 < 0 then ([.pstr none], l.2) else let (b, t) := rSpan l.1 l.2; ([.pstr (some (orNil b))], t)
def rByt (l : Int × RS) : List CV × RS := if l.1 = -1 then ([.bytes (some [])], l.2) else let (b, t) := rSpan l.1 l.2; ([.bytes b], t)
def rNbyt (l : Int × RS) : List CV × RS := if l.1 < 0 then ([.bytes none], l.2) else let (b, t) := rSpan l.1 l.2; ([.bytes b], t)
def rprim : WPrim → RS → List CV × RS
  | .bool, s => let (x, t) := rNat 1 s; ([.bool (x != 0)], t)
  | .i8, s => let (x, t) := rI .i8 1 s; ([.int .i8 x], t)
  | .i16, s => let (x, t) := rI .i16 2 s; ([.int .i16 x], t)
  | .u16, s => let (x, t) := rI .u16 2 s; ([.int .u16 x], t)
  | .i32, s => let (x, t) := rI .i32 4 s; ([.int .i32 x], t)
  | .i64, s => let (x, t) := rI .i64 8 s; ([.int .i64 x], t)
  | .f64, s => let (x, t) := rNat 8 s; ([.flt x], t)
  | .uuid, s => let (b, t) := rSpan 16 s; ((match b with
    | some l => l.map fun x => .int .u8 x.toNat
    | none => List.replicate 16 (.int .u8 0)), t)
  | .str, s => rStr (rI .i16 2 s)
  | .cstr, s => rStr (rCl s)
  | .nstr, s => rNstr (rI .i16 2 s)
  | .cnstr, s => rNstr (rCl s)
  | .byt, s => rByt (rI .i32 4 s)
  | .cbyt, s => rByt (rCl s)
  | .nbyt, s => rNbyt (rI .i32 4 s)
  | .cnbyt, s => rNbyt (rCl s)
/-- The length of a list. -/
def rLenOk (r : Int) (s : RS) : Int × RS := if (s.rest.length : Int) < r then (0, .fail) else (r, s)
def rlen : Bool → RS → Int × RS
  | false, s => let (r, t) := rI .i32 4 s; rLenOk r t
  | true, s => let (r, t) := rUv s; rLenOk (IntKind.i32.wrap (IntKind.i32.wrap r - 1)) t
/-- A tag into those that are laid by rising numbers; what stood there is gone. -/
def tagSet (k : Nat) (v : List UInt8) : List (Nat × List UInt8) → List (Nat × List UInt8)
  | [] => [(k, v)]
  | t :: r => if k < t.1 then (k, v) :: t :: r else if k = t.1 then (k, v) :: r else t :: tagSet k v r
def rTagsL : Nat → List (Nat × List UInt8) → RS → List (Nat × List UInt8) × RS
  | 0, l, s => (l, s)
  | n + 1, l, s =>
    let (k, s1) := rUv s
    let (z, s2) := rUv s1
    let (b, s3) := rSpan z s2
    rTagsL n (tagSet k (orNil b) l) s3
def rTags (s : RS) : List (Nat × List UInt8) × RS := let (n, t) := rUv s; rTagsL n [] t

/-- A plan of reading. Of a list: whether its length is compact; when it is nil (0: where nothing is in it; 1: where its length is below zero; 2: never). -/
inductive RP where
  | nil
  | prim (p : WPrim) (off : Nat) (k : RP)
  | arr (c : Bool) (nul : Nat) (off : Nat) (dflt : List CV) (body : RP) (k : RP)
  | tags (off : Nat) (k : RP)

def setAt (cs : List CV) (o : Nat) (v : List CV) : List CV := cs.take o ++ (v ++ cs.drop (o + v.length))
def loopR (body : List CV → RS → Option (List CV × RS)) (d : List CV) : Nat → RS → Option (List CV × RS)
  | 0, s => some ([], s)
  | n + 1, s => match body d s with
    | none => none
    | some (e, s1) => match loopR body d n s1 with
      | none => none
      | some (es, s2) => some (e ++ es, s2)
def isNil (nul : Nat) (l : Int) : Bool := match nul with
  | 0 => decide (l ≤ 0)
  | 1 => decide (l < 0)
  | _ => false
def runR : RP → List CV → RS → Option (List CV × RS)
  | .nil, cs, s => some (cs, s)
  | .prim p o k, cs, s => runR k (setAt cs o (rprim p s).1) (rprim p s).2
  | .tags o k, cs, s => runR k (setAt cs o [.tags (rTags s).1]) (rTags s).2
  | .arr c nul o d body k, cs, s =>
    if (rlen c s).2.bad then none else match loopR (fun e t => runR body e t) d (rlen c s).1.toNat (rlen c s).2 with
    | none => none
    | some (es, t) => runR k (setAt cs o [.arr (isNil nul (rlen c s).1) (rlen c s).1.toNat es]) t
end Go.Proofs.Eng
/-! What is written is read, what is read is written, and what ends too early is refused: plain laws. First: numbers, groups of seven bits, pieces. -/
namespace Go.Proofs.Eng
open Go

theorem beNat_snoc (l : List UInt8) (b : UInt8) : beNat (l ++ [b]) = beNat l * 256 + b.toNat := by simp [beNat]
theorem beNat_lt (l : List UInt8) : beNat l < 256 ^ l.length := by
  suffices h : ∀ (l : List UInt8) (a n : Nat), a < 256 ^ n → l.foldl (fun a b => a * 256 + b.toNat) a < 256 ^ (n + l.length) by
    simpa [beNat] using h l 0 0 (by simp)
  intro l
  induction l with
  | nil => intro a n h; simpa using h
  | cons x r ih =>
    intro a n h
    simp only [List.foldl_cons, List.length_cons]
    rw [show n + (r.length + 1) = (n + 1) + r.length from by omega]
    refine ih _ _ ?_
    have := x.toNat_lt
    rw [Nat.pow_succ]
    omega

/-- More bytes behind what is left. -/
def RS.more (s : RS) (q : List UInt8) : RS := ⟨some (s.rest ++ q), s.bad⟩
theorem rNat_ok {k : Nat} {s : RS} (h : (rNat k s).2.bad = false) : k ≤ s.rest.length ∧ s.bad = false ∧ rNat k s = (beNat (s.rest.take k), ⟨some (s.rest.drop k), false⟩) := by
  unfold rNat at h ⊢
  split at h
  · cases h
  · rename_i hl
    have hb : s.bad = false := h
    rw [if_neg hl, hb]
    exact ⟨by omega, rfl, rfl⟩
theorem rNat_more {k : Nat} {s : RS} (q : List UInt8) (h : (rNat k s).2.bad = false) : rNat k (s.more q) = ((rNat k s).1, (rNat k s).2.more q) := by
  obtain ⟨h1, h2, h3⟩ := rNat_ok h
  rw [h3]
  unfold rNat
  have hr : (s.more q).rest = s.rest ++ q := rfl
  rw [hr, if_neg (by simp; omega), List.take_append_of_le_length h1, List.drop_append_of_le_length h1]
  simp [RS.more, RS.rest, h2]
theorem rSpan_ok {l : Int} {s : RS} (h : (rSpan l s).2.bad = false) : 0 ≤ l ∧ l ≤ s.rest.length ∧ s.bad = false ∧ (s.src ≠ none → rSpan l s = (some (s.rest.take l.toNat), ⟨some (s.rest.drop l.toNat), false⟩)) := by
  unfold rSpan at h ⊢
  split at h
  · cases h
  · rename_i hl
    have hl' : 0 ≤ l ∧ l ≤ s.rest.length := by omega
    refine ⟨hl'.1, hl'.2, ?_, ?_⟩
    · revert h; cases hs : s.src <;> simp
    · intro hn
      rw [if_neg hl]
      revert h
      cases hs : s.src with
      | none => exact absurd hs hn
      | some b => simp [RS.rest, hs]
theorem rUvL_more : ∀ (i m x : Nat) (l : List UInt8) (n : Nat) (r q : List UInt8), rUvL i m x l = some (n, r) → rUvL i m x (l ++ q) = some (n, r ++ q) := by
  intro i
  induction i with
  | zero =>
    intro m x l n r q h
    cases l with
    | nil => simp [rUvL] at h
    | cons a l =>
      simp only [rUvL] at h
      simp only [List.cons_append, rUvL]
      split at h
      · rename_i ha; cases h; rw [if_pos ha]
      · cases h
  | succ i ih =>
    intro m x l n r q h
    cases l with
    | nil => simp [rUvL] at h
    | cons a l =>
      simp only [rUvL] at h
      simp only [List.cons_append, rUvL]
      split at h
      · rename_i ha; cases h; rw [if_pos ha]
      · rename_i ha; rw [if_neg ha]; exact ih _ _ _ _ _ q h
theorem rUv_ok {s : RS} (h : (rUv s).2.bad = false) : ∃ x r, rUvL 4 1 0 s.rest = some (x, r) ∧ s.bad = false ∧ rUv s = (x, ⟨some r, false⟩) := by
  unfold rUv at h ⊢
  split at h
  · rename_i x r hx
    have hb : s.bad = false := h
    exact ⟨x, r, hx, hb, by rw [hb]⟩
  · cases h
theorem rUv_more {s : RS} (q : List UInt8) (h : (rUv s).2.bad = false) : rUv (s.more q) = ((rUv s).1, (rUv s).2.more q) := by
  obtain ⟨x, r, h1, h2, h3⟩ := rUv_ok h
  rw [h3]
  unfold rUv
  have hr : (s.more q).rest = s.rest ++ q := rfl
  rw [hr, rUvL_more _ _ _ _ _ _ q h1]
  simp [RS.more, RS.rest, h2]
theorem byteOf (n : Nat) (h : n < 256) : (UInt8.ofNat n).toNat = n := by simp; omega
theorem uvF_read : ∀ (i f m x n : Nat) (e : List UInt8), i ≤ f → n < 128 ^ i * 16 → rUvL i m x (uvF f n ++ e) = some (x + n * m, e) := by
  intro i
  induction i with
  | zero =>
    intro f m x n e _ hn
    have hn : n < 16 := by simpa using hn
    have h1 : uvF f n = [UInt8.ofNat n] := by
      cases f with
      | zero => rfl
      | succ f => simp only [uvF]; rw [if_pos (by omega)]
    rw [h1]
    simp only [List.cons_append, List.nil_append, rUvL, byteOf n (by omega)]
    rw [if_pos (by omega)]
  | succ i ih =>
    intro f m x n e hf hn
    cases f with
    | zero => omega
    | succ f =>
      simp only [uvF]
      split
      · rename_i hs
        simp only [List.cons_append, List.nil_append, rUvL, byteOf n (by omega)]
        rw [if_pos hs]
      · rename_i hs
        simp only [List.cons_append, rUvL, byteOf (n % 128 + 128) (by omega)]
        rw [if_neg (by omega), ih f (m * 128) _ (n / 128) e (by omega) (by rw [Nat.pow_succ] at hn; omega)]
        congr 2
        have h2 := Nat.div_add_mod n 128
        have h3 : n * m = (128 * (n / 128) + n % 128) * m := by rw [h2]
        rw [h3, Nat.add_mul, show n % 128 + 128 - 128 = n % 128 from by omega]
        have h4 : n / 128 * (m * 128) = 128 * (n / 128) * m := by
          rw [Nat.mul_comm m 128, ← Nat.mul_assoc, Nat.mul_comm (n / 128) 128]
        omega
theorem uv_read (n : Nat) (h : n < 4294967296) (e : List UInt8) (s : RS) (hs : s.rest = uv n ++ e) (hb : s.bad = false) : rUv s = (n, ⟨some e, false⟩) := by
  unfold rUv
  rw [hs, show uv n = uvF 9 n from rfl, uvF_read 4 9 1 0 n e (by omega) (by omega), hb]
  simp
theorem beNat_be (k : Nat) (n : Int) : (beNat (be k n) : Int) = n % (256 : Int) ^ k := by
  suffices h : ∀ (k : Nat) (a : Nat), (((be k n).foldl (fun a b => a * 256 + b.toNat) a : Nat) : Int) = a * (256 : Int) ^ k + n % (256 : Int) ^ k by
    simpa [beNat] using h k 0
  intro k
  induction k with
  | zero => intro a; simp [be, Int.emod_one]
  | succ k ih =>
    intro a
    have hp : (0 : Int) < 256 ^ k := Int.pow_pos (by decide)
    simp only [be, List.foldl_cons]
    rw [ih]
    have h1 : 0 ≤ n / (256 : Int) ^ k % 256 := Int.emod_nonneg _ (by decide)
    have h2 : n / (256 : Int) ^ k % 256 < 256 := Int.emod_lt_of_pos _ (by decide)
    rw [byteOf _ (by omega)]
    have h3 : ((n / (256 : Int) ^ k % 256).toNat : Int) = n / (256 : Int) ^ k % 256 := Int.toNat_of_nonneg h1
    rw [Int.natCast_add, Int.natCast_mul, h3, Int.pow_succ, show ((256 : Nat) : Int) = 256 from rfl]
    have h4 := Int.mul_ediv_add_emod n ((256 : Int) ^ k)
    have h5 := Int.mul_ediv_add_emod (n / (256 : Int) ^ k) 256
    have h7 := Int.emod_nonneg n (show (256 : Int) ^ k ≠ 0 by omega)
    have h8 := Int.emod_lt_of_pos n hp
    generalize n % (256 : Int) ^ k = r at *
    generalize n / (256 : Int) ^ k = q at *
    generalize hr2 : q % 256 = r2 at *
    generalize q / 256 = q2 at *
    generalize (256 : Int) ^ k = p at *
    have h9 : p * r2 ≤ p * 255 := Int.mul_le_mul_of_nonneg_left (by omega) (by omega)
    have h10 : 0 ≤ p * r2 := Int.mul_nonneg (by omega) h1
    have h6 : n % (p * 256) = p * r2 + r := by
      have e : n = (p * r2 + r) + (p * 256) * q2 := by
        rw [← h4, ← h5, Int.mul_add, Int.mul_assoc]
        omega
      rw [e, Int.add_mul_emod_self_left, Int.emod_eq_of_lt (by omega) (by omega)]
    rw [h6, Int.add_mul, Int.mul_comm r2 p, Int.mul_comm p 256, ← Int.mul_assoc]
    omega
end Go.Proofs.Eng
/-! The primitives: what is written is read; what is read could have been written; more bytes behind it are left alone. -/
namespace Go.Proofs.Eng
open Go

def OkP : WPrim → List CV → Prop
  | .bool, v => ∃ b, v = [.bool b]
  | .i8, v => ∃ n, IntKind.i8.wrap n = n ∧ v = [.int .i8 n]
  | .i16, v => ∃ n, IntKind.i16.wrap n = n ∧ v = [.int .i16 n]
  | .u16, v => ∃ n, IntKind.u16.wrap n = n ∧ v = [.int .u16 n]
  | .i32, v => ∃ n, IntKind.i32.wrap n = n ∧ v = [.int .i32 n]
  | .i64, v => ∃ n, IntKind.i64.wrap n = n ∧ v = [.int .i64 n]
  | .f64, v => ∃ n, n < 18446744073709551616 ∧ v = [.flt n]
  | .uuid, v => ∃ l : List UInt8, l.length = 16 ∧ v = l.map fun x => .int .u8 x.toNat
  | .str, v => ∃ s : List UInt8, s.length < 32768 ∧ v = [.str s]
  | .cstr, v => ∃ s : List UInt8, s.length < 4294967295 ∧ v = [.str s]
  | .nstr, v => ∃ o : Option (List UInt8), (∀ s, o = some s → s.length < 32768) ∧ v = [.pstr o]
  | .cnstr, v => ∃ o : Option (List UInt8), (∀ s, o = some s → s.length < 4294967295) ∧ v = [.pstr o]
  | .byt, v => ∃ s : List UInt8, s.length < 2147483648 ∧ v = [.bytes (some s)]
  | .cbyt, v => ∃ s : List UInt8, s.length < 4294967295 ∧ v = [.bytes (some s)]
  | .nbyt, v => ∃ o : Option (List UInt8), (∀ s, o = some s → s.length < 2147483648) ∧ v = [.bytes o]
  | .cnbyt, v => ∃ o : Option (List UInt8), (∀ s, o = some s → s.length < 4294967295) ∧ v = [.bytes o]

/-- Kinds of numbers and their bytes. -/
def KB (k : IntKind) (b : Nat) : Prop := (∀ n : Int, k.wrap (n % (256 : Int) ^ b) = k.wrap n) ∧ ∀ n : Int, k.wrap (k.wrap n) = k.wrap n
theorem kb_i8 : KB .i8 1 := ⟨fun n => by simp [IntKind.wrap, IntKind.bits, IntKind.signed], fun n => by simp [IntKind.wrap, IntKind.bits, IntKind.signed]; (repeat' split) <;> omega⟩
theorem kb_i16 : KB .i16 2 := ⟨fun n => by simp [IntKind.wrap, IntKind.bits, IntKind.signed], fun n => by simp [IntKind.wrap, IntKind.bits, IntKind.signed]; (repeat' split) <;> omega⟩
theorem kb_u16 : KB .u16 2 := ⟨fun n => by simp [IntKind.wrap, IntKind.bits, IntKind.signed], fun n => by simp [IntKind.wrap, IntKind.bits, IntKind.signed]⟩
theorem kb_i32 : KB .i32 4 := ⟨fun n => by simp [IntKind.wrap, IntKind.bits, IntKind.signed], fun n => by simp [IntKind.wrap, IntKind.bits, IntKind.signed]; (repeat' split) <;> omega⟩
theorem kb_i64 : KB .i64 8 := ⟨fun n => by simp [IntKind.wrap, IntKind.bits, IntKind.signed], fun n => by simp [IntKind.wrap, IntKind.bits, IntKind.signed]; (repeat' split) <;> omega⟩

theorem rNat_read (b : Nat) (n : Int) (e : List UInt8) (s : RS) (hs : s.rest = be b n ++ e) (hb : s.bad = false) : rNat b s = (beNat (be b n), ⟨some e, false⟩) := by
  have hl := be_length b n
  unfold rNat
  rw [hs, if_neg (show ¬ (be b n ++ e).length < b by simp [hl]), hb]
  have h1 : (be b n ++ e).take b = be b n := by rw [List.take_append_of_le_length (by omega), List.take_of_length_le (by omega)]
  have h2 : (be b n ++ e).drop b = e := List.drop_left' hl
  rw [h1, h2]
theorem rI_read {k : IntKind} {b : Nat} (hk : KB k b) (n : Int) (hn : k.wrap n = n) (e : List UInt8) (s : RS) (hs : s.rest = be b n ++ e) (hb : s.bad = false) : rI k b s = (n, ⟨some e, false⟩) := by
  unfold rI
  rw [rNat_read b n e s hs hb]
  simp only [beNat_be, hk.1, hn]
theorem rI_ok {k : IntKind} {b : Nat} (hk : KB k b) {s : RS} (h : (rI k b s).2.bad = false) : b ≤ s.rest.length ∧ s.bad = false ∧ k.wrap (rI k b s).1 = (rI k b s).1 ∧ (rI k b s).2 = ⟨some (s.rest.drop b), false⟩ := by
  obtain ⟨h1, h2, h3⟩ := rNat_ok (show (rNat b s).2.bad = false from h)
  refine ⟨h1, h2, ?_, ?_⟩
  · exact hk.2 _
  · show (rNat b s).2 = _
    rw [h3]
theorem rI_more {k : IntKind} {b : Nat} {s : RS} (q : List UInt8) (h : (rI k b s).2.bad = false) : rI k b (s.more q) = ((rI k b s).1, (rI k b s).2.more q) := by
  unfold rI
  rw [rNat_more q (show (rNat b s).2.bad = false from h)]
theorem rCl_read (n : Nat) (hn : n < 4294967295) (e : List UInt8) (s : RS) (hs : s.rest = uv ((1 + n) % 4294967296) ++ e) (hb : s.bad = false) : rCl s = ((n : Int), ⟨some e, false⟩) := by
  unfold rCl
  rw [uv_read _ (by omega) e s hs hb]
  simp only [Prod.mk.injEq, and_true]
  omega
theorem rUvL_lt : ∀ (i m x : Nat) (l : List UInt8) (n : Nat) (r : List UInt8), rUvL i m x l = some (n, r) → x < m → n < m * 128 ^ i * 16 ∧ r.length < l.length := by
  intro i
  induction i with
  | zero =>
    intro m x l n r h hx
    cases l with
    | nil => simp [rUvL] at h
    | cons a l =>
      simp only [rUvL] at h
      split at h
      · rename_i ha
        cases h
        have h1 : a.toNat * m ≤ 15 * m := Nat.mul_le_mul_right _ ha
        exact ⟨by simp; omega, by simp⟩
      · cases h
  | succ i ih =>
    intro m x l n r h hx
    cases l with
    | nil => simp [rUvL] at h
    | cons a l =>
      simp only [rUvL] at h
      have h128 : m * 128 ≤ m * 128 ^ (i + 1) * 16 := by
        have : 0 < 128 ^ i := Nat.pow_pos (by decide)
        rw [Nat.pow_succ, Nat.mul_assoc]
        exact Nat.mul_le_mul_left _ (by omega)
      split at h
      · rename_i ha
        cases h
        have h1 : a.toNat * m ≤ 127 * m := Nat.mul_le_mul_right _ (by omega)
        exact ⟨by omega, by simp⟩
      · rename_i ha
        have ha2 := a.toNat_lt
        have h1 : (a.toNat - 128) * m ≤ 127 * m := Nat.mul_le_mul_right _ (by omega)
        obtain ⟨h2, h3⟩ := ih (m * 128) _ l n r h (by omega)
        refine ⟨?_, by simp; omega⟩
        rw [Nat.pow_succ]
        have e : m * 128 * 128 ^ i = m * (128 ^ i * 128) := by rw [Nat.mul_assoc, Nat.mul_comm 128 (128 ^ i)]
        rwa [e] at h2
theorem rUv_lt {s : RS} (h : (rUv s).2.bad = false) : (rUv s).1 < 4294967296 ∧ s.bad = false ∧ ∃ r, (rUv s).2 = ⟨some r, false⟩ ∧ r.length < s.rest.length := by
  obtain ⟨x, r, h1, h2, h3⟩ := rUv_ok h
  have h4 := rUvL_lt 4 1 0 _ _ _ h1 (by omega)
  rw [h3]
  exact ⟨by omega, h2, r, rfl, h4.2⟩
theorem rCl_ok {s : RS} (h : (rCl s).2.bad = false) : -1 ≤ (rCl s).1 ∧ (rCl s).1 < 4294967295 ∧ s.bad = false ∧ ∃ r, (rCl s).2 = ⟨some r, false⟩ ∧ r.length < s.rest.length := by
  obtain ⟨h1, h2, h3⟩ := rUv_lt (show (rUv s).2.bad = false from h)
  have e : (rCl s).1 = ((rUv s).1 : Int) - 1 := rfl
  exact ⟨by omega, by omega, h2, h3⟩
theorem rCl_more {s : RS} (q : List UInt8) (h : (rCl s).2.bad = false) : rCl (s.more q) = ((rCl s).1, (rCl s).2.more q) := by
  unfold rCl
  rw [rUv_more q (show (rUv s).2.bad = false from h)]

theorem rSpan_some (l : Int) (r : List UInt8) : rSpan l ⟨some r, false⟩ = if (r.length : Int) < l ∨ l < 0 then (none, .fail) else (some (r.take l.toNat), ⟨some (r.drop l.toNat), false⟩) := rfl
theorem rSpan_read (s e : List UInt8) : rSpan (s.length : Int) ⟨some (s ++ e), false⟩ = (some s, ⟨some e, false⟩) := by
  rw [rSpan_some, if_neg (by simp; omega)]
  simp
theorem rSpan_good {l : Int} {r : List UInt8} (h : (rSpan l ⟨some r, false⟩).2.bad = false) : 0 ≤ l ∧ l ≤ r.length ∧ rSpan l ⟨some r, false⟩ = (some (r.take l.toNat), ⟨some (r.drop l.toNat), false⟩) := by
  rw [rSpan_some] at h ⊢
  split at h
  · cases h
  · rename_i hl
    rw [if_neg hl]
    exact ⟨by omega, by omega, rfl⟩
theorem rSpan_longer {l : Int} {r : List UInt8} (q : List UInt8) (h0 : 0 ≤ l) (h1 : l ≤ r.length) : rSpan l ⟨some (r ++ q), false⟩ = (some (r.take l.toNat), ⟨some (r.drop l.toNat ++ q), false⟩) := by
  rw [rSpan_some, if_neg (by simp; omega), List.take_append_of_le_length (by omega), List.drop_append_of_le_length (by omega)]
end Go.Proofs.Eng
namespace Go.Proofs.Eng
open Go

theorem rStr_read (s e : List UInt8) : rStr ((s.length : Int), ⟨some (s ++ e), false⟩) = ([.str s], ⟨some e, false⟩) := by
  unfold rStr; rw [rSpan_read]; rfl
theorem rNstr_read (s e : List UInt8) : rNstr ((s.length : Int), ⟨some (s ++ e), false⟩) = ([.pstr (some s)], ⟨some e, false⟩) := by
  unfold rNstr; rw [if_neg (by simp), rSpan_read]; rfl
theorem rByt_read (s e : List UInt8) : rByt ((s.length : Int), ⟨some (s ++ e), false⟩) = ([.bytes (some s)], ⟨some e, false⟩) := by
  unfold rByt; rw [if_neg (show ¬ (s.length : Int) = -1 by omega), rSpan_read]
theorem rNbyt_read (s e : List UInt8) : rNbyt ((s.length : Int), ⟨some (s ++ e), false⟩) = ([.bytes (some s)], ⟨some e, false⟩) := by
  unfold rNbyt; rw [if_neg (by simp), rSpan_read]
theorem rest_some {s : RS} {a e : List UInt8} (h : s.rest = a ++ e) (ha : a ≠ []) (hb : s.bad = false) : s = ⟨some (a ++ e), false⟩ := by
  obtain ⟨src, bad⟩ := s
  cases src with
  | none => simp [RS.rest] at h; exact absurd h.1 ha
  | some l => simp only [RS.rest] at h; simp only at hb; rw [h, hb]
theorem uuidOf_map (l : List UInt8) : uuidOf (l.map fun x => .int .u8 x.toNat) = l := by
  induction l with
  | nil => rfl
  | cons x r ih =>
    simp only [List.map_cons, uuidOf, ih]
    have h := x.toNat_lt
    have : ((x.toNat : Int) % 256).toNat = x.toNat := by omega
    rw [this]
    simp
theorem rw_prim (p : WPrim) (v : List CV) (e : List UInt8) (s : RS) (h : OkP p v) (hs : s.rest = wprim p v ++ e) (hb : s.bad = false) : rprim p s = (v, ⟨some e, false⟩) := by
  cases p with
  | bool =>
    obtain ⟨b, rfl⟩ := h
    have hs : s.rest = [if b then 1 else 0] ++ e := hs
    have h1 := rest_some hs (by simp) hb
    subst h1
    cases b <;> rfl
  | i8 => obtain ⟨n, hn, rfl⟩ := h; show ([CV.int .i8 (rI .i8 1 s).1], (rI .i8 1 s).2) = _; rw [rI_read kb_i8 n hn e s hs hb]
  | i16 => obtain ⟨n, hn, rfl⟩ := h; show ([CV.int .i16 (rI .i16 2 s).1], (rI .i16 2 s).2) = _; rw [rI_read kb_i16 n hn e s hs hb]
  | u16 => obtain ⟨n, hn, rfl⟩ := h; show ([CV.int .u16 (rI .u16 2 s).1], (rI .u16 2 s).2) = _; rw [rI_read kb_u16 n hn e s hs hb]
  | i32 => obtain ⟨n, hn, rfl⟩ := h; show ([CV.int .i32 (rI .i32 4 s).1], (rI .i32 4 s).2) = _; rw [rI_read kb_i32 n hn e s hs hb]
  | i64 => obtain ⟨n, hn, rfl⟩ := h; show ([CV.int .i64 (rI .i64 8 s).1], (rI .i64 8 s).2) = _; rw [rI_read kb_i64 n hn e s hs hb]
  | f64 =>
    obtain ⟨n, hn, rfl⟩ := h
    show ([CV.flt (rNat 8 s).1], (rNat 8 s).2) = _
    rw [rNat_read 8 n e s hs hb]
    have h1 := beNat_be 8 n
    have h2 : beNat (be 8 n) = n := by
      have : (n : Int) % (256 : Int) ^ 8 = n := Int.emod_eq_of_lt (by omega) (by omega)
      omega
    rw [h2]
  | uuid =>
    obtain ⟨l, hl, rfl⟩ := h
    have e1 : wprim .uuid (l.map fun (x : UInt8) => CV.int .u8 x.toNat) = l := by
      show uuidOf ((l.map fun (x : UInt8) => CV.int .u8 x.toNat).take 16) = l
      rw [List.take_of_length_le (by simp [hl]), uuidOf_map]
    rw [e1] at hs
    have h1 := rest_some hs (by intro h; simp [h] at hl) hb
    subst h1
    have h2 := rSpan_read l e
    rw [hl] at h2
    show ((match (rSpan 16 ⟨some (l ++ e), false⟩).1 with
      | some l => l.map fun (x : UInt8) => CV.int .u8 x.toNat
      | none => List.replicate 16 (.int .u8 0)), (rSpan 16 ⟨some (l ++ e), false⟩).2) = _
    rw [show (16 : Int) = ((16 : Nat) : Int) from rfl, h2]
  | str =>
    obtain ⟨t, ht, rfl⟩ := h
    show rStr (rI .i16 2 s) = _
    rw [rI_read kb_i16 (t.length : Int) (by simp [IntKind.wrap, IntKind.bits, IntKind.signed]; omega) (t ++ e) s (by rw [hs]; exact List.append_assoc _ _ _) hb, rStr_read]
  | cstr =>
    obtain ⟨t, ht, rfl⟩ := h
    show rStr (rCl s) = _
    rw [rCl_read t.length ht (t ++ e) s (by rw [hs]; exact List.append_assoc _ _ _) hb, rStr_read]
  | nstr =>
    obtain ⟨o, ht, rfl⟩ := h
    show rNstr (rI .i16 2 s) = _
    cases o with
    | none => rw [rI_read kb_i16 (-1) (by decide) e s hs hb]; rfl
    | some t =>
      have ht := ht t rfl
      rw [rI_read kb_i16 (t.length : Int) (by simp [IntKind.wrap, IntKind.bits, IntKind.signed]; omega) (t ++ e) s (by rw [hs]; exact List.append_assoc _ _ _) hb, rNstr_read]
  | cnstr =>
    obtain ⟨o, ht, rfl⟩ := h
    show rNstr (rCl s) = _
    cases o with
    | none =>
      have : rCl s = (-1, ⟨some e, false⟩) := by unfold rCl; rw [uv_read 0 (by decide) e s hs hb]; rfl
      rw [this]; rfl
    | some t => rw [rCl_read t.length (ht t rfl) (t ++ e) s (by rw [hs]; exact List.append_assoc _ _ _) hb, rNstr_read]
  | byt =>
    obtain ⟨t, ht, rfl⟩ := h
    show rByt (rI .i32 4 s) = _
    rw [rI_read kb_i32 (t.length : Int) (by simp [IntKind.wrap, IntKind.bits, IntKind.signed]; omega) (t ++ e) s (by rw [hs]; exact List.append_assoc _ _ _) hb, rByt_read]
  | cbyt =>
    obtain ⟨t, ht, rfl⟩ := h
    show rByt (rCl s) = _
    rw [rCl_read t.length ht (t ++ e) s (by rw [hs]; exact List.append_assoc _ _ _) hb, rByt_read]
  | nbyt =>
    obtain ⟨o, ht, rfl⟩ := h
    show rNbyt (rI .i32 4 s) = _
    cases o with
    | none => rw [rI_read kb_i32 (-1) (by decide) e s hs hb]; rfl
    | some t =>
      have ht := ht t rfl
      rw [rI_read kb_i32 (t.length : Int) (by simp [IntKind.wrap, IntKind.bits, IntKind.signed]; omega) (t ++ e) s (by rw [hs]; exact List.append_assoc _ _ _) hb, rNbyt_read]
  | cnbyt =>
    obtain ⟨o, ht, rfl⟩ := h
    show rNbyt (rCl s) = _
    cases o with
    | none =>
      have : rCl s = (-1, ⟨some e, false⟩) := by unfold rCl; rw [uv_read 0 (by decide) e s hs hb]; rfl
      rw [this]; rfl
    | some t => rw [rCl_read t.length (ht t rfl) (t ++ e) s (by rw [hs]; exact List.append_assoc _ _ _) hb, rNbyt_read]

/-- What a reading that does not fail comes to. -/
structure Good (s : RS) (q : List UInt8) (v v' : List CV) (t t' : RS) : Prop where
  bad : s.bad = false
  rest : ∃ r, t = ⟨some r, false⟩ ∧ r.length < s.rest.length
  val : v' = v
  more : t' = t.more q
theorem rStr_F {l : Int} {r : List UInt8} (q : List UInt8) (h : (rStr (l, ⟨some r, false⟩)).2.bad = false) :
    (∃ t : List UInt8, (t.length : Int) = l ∧ (rStr (l, ⟨some r, false⟩)).1 = [.str t]) ∧ (∃ r', (rStr (l, ⟨some r, false⟩)).2 = ⟨some r', false⟩ ∧ r'.length ≤ r.length) ∧ rStr (l, ⟨some (r ++ q), false⟩) = ((rStr (l, ⟨some r, false⟩)).1, (rStr (l, ⟨some r, false⟩)).2.more q) := by
  obtain ⟨h0, h1, h2⟩ := rSpan_good (show (rSpan l ⟨some r, false⟩).2.bad = false from h)
  unfold rStr
  simp only [h2, rSpan_longer q h0 h1]
  exact ⟨⟨r.take l.toNat, by simp; omega, rfl⟩, ⟨_, rfl, by simp⟩, rfl⟩
theorem rNstr_F {l : Int} {r : List UInt8} (q : List UInt8) (h : (rNstr (l, ⟨some r, false⟩)).2.bad = false) :
    (∃ o : Option (List UInt8), (∀ t, o = some t → (t.length : Int) = l) ∧ (rNstr (l, ⟨some r, false⟩)).1 = [.pstr o]) ∧ (∃ r', (rNstr (l, ⟨some r, false⟩)).2 = ⟨some r', false⟩ ∧ r'.length ≤ r.length) ∧ rNstr (l, ⟨some (r ++ q), false⟩) = ((rNstr (l, ⟨some r, false⟩)).1, (rNstr (l, ⟨some r, false⟩)).2.more q) := by
  unfold rNstr at h ⊢
  simp only at h ⊢
  by_cases hl : l < 0
  · simp only [if_pos hl]
    exact ⟨⟨none, by simp, rfl⟩, ⟨_, rfl, Nat.le_refl _⟩, rfl⟩
  · simp only [if_neg hl] at h ⊢
    obtain ⟨h0, h1, h2⟩ := rSpan_good (show (rSpan l ⟨some r, false⟩).2.bad = false from h)
    simp only [h2, rSpan_longer q h0 h1]
    exact ⟨⟨some (r.take l.toNat), by intro t ht; cases ht; simp; omega, rfl⟩, ⟨_, rfl, by simp⟩, rfl⟩
theorem rByt_F {l : Int} {r : List UInt8} (q : List UInt8) (h : (rByt (l, ⟨some r, false⟩)).2.bad = false) :
    (∃ t : List UInt8, ((t.length : Int) = l ∨ t = []) ∧ (rByt (l, ⟨some r, false⟩)).1 = [.bytes (some t)]) ∧ (∃ r', (rByt (l, ⟨some r, false⟩)).2 = ⟨some r', false⟩ ∧ r'.length ≤ r.length) ∧ rByt (l, ⟨some (r ++ q), false⟩) = ((rByt (l, ⟨some r, false⟩)).1, (rByt (l, ⟨some r, false⟩)).2.more q) := by
  unfold rByt at h ⊢
  simp only at h ⊢
  by_cases hl : l = -1
  · simp only [if_pos hl]
    exact ⟨⟨[], .inr rfl, rfl⟩, ⟨_, rfl, Nat.le_refl _⟩, rfl⟩
  · simp only [if_neg hl] at h ⊢
    obtain ⟨h0, h1, h2⟩ := rSpan_good (show (rSpan l ⟨some r, false⟩).2.bad = false from h)
    simp only [h2, rSpan_longer q h0 h1]
    exact ⟨⟨r.take l.toNat, by simp; omega, rfl⟩, ⟨_, rfl, by simp⟩, rfl⟩
theorem rNbyt_F {l : Int} {r : List UInt8} (q : List UInt8) (h : (rNbyt (l, ⟨some r, false⟩)).2.bad = false) :
    (∃ o : Option (List UInt8), (∀ t, o = some t → (t.length : Int) = l) ∧ (rNbyt (l, ⟨some r, false⟩)).1 = [.bytes o]) ∧ (∃ r', (rNbyt (l, ⟨some r, false⟩)).2 = ⟨some r', false⟩ ∧ r'.length ≤ r.length) ∧ rNbyt (l, ⟨some (r ++ q), false⟩) = ((rNbyt (l, ⟨some r, false⟩)).1, (rNbyt (l, ⟨some r, false⟩)).2.more q) := by
  unfold rNbyt at h ⊢
  simp only at h ⊢
  by_cases hl : l < 0
  · simp only [if_pos hl]
    exact ⟨⟨none, by simp, rfl⟩, ⟨_, rfl, Nat.le_refl _⟩, rfl⟩
  · simp only [if_neg hl] at h ⊢
    obtain ⟨h0, h1, h2⟩ := rSpan_good (show (rSpan l ⟨some r, false⟩).2.bad = false from h)
    simp only [h2, rSpan_longer q h0 h1]
    exact ⟨⟨some (r.take l.toNat), by intro t ht; cases ht; simp; omega, rfl⟩, ⟨_, rfl, by simp⟩, rfl⟩
theorem span_bad {l : Int} {t : RS} (h : (rSpan l t).2.bad = false) : t.bad = false := (rSpan_ok h).2.2.1
theorem rStr_bad (l : Int) (t : RS) (h : (rStr (l, t)).2.bad = false) : t.bad = false := span_bad h
theorem rNstr_bad (l : Int) (t : RS) (h : (rNstr (l, t)).2.bad = false) : t.bad = false := by
  unfold rNstr at h
  simp only at h
  split at h
  · exact h
  · exact span_bad h
theorem rByt_bad (l : Int) (t : RS) (h : (rByt (l, t)).2.bad = false) : t.bad = false := by
  unfold rByt at h
  simp only at h
  split at h
  · exact h
  · exact span_bad h
theorem rNbyt_bad (l : Int) (t : RS) (h : (rNbyt (l, t)).2.bad = false) : t.bad = false := by
  unfold rNbyt at h
  simp only at h
  split at h
  · exact h
  · exact span_bad h
theorem num_good {k : IntKind} {b : Nat} (hk : KB k b) (hb : 0 < b) {s : RS} (q : List UInt8) (h : (rI k b s).2.bad = false) :
    s.bad = false ∧ (∃ r, (rI k b s).2 = ⟨some r, false⟩ ∧ r.length < s.rest.length) ∧ rI k b (s.more q) = ((rI k b s).1, (rI k b s).2.more q) := by
  obtain ⟨h1, h2, h3, h4⟩ := rI_ok hk h
  exact ⟨h2, ⟨_, h4, by simp; omega⟩, rI_more q h⟩
theorem cl_good {s : RS} (q : List UInt8) (h : (rCl s).2.bad = false) : s.bad = false ∧ (∃ r, (rCl s).2 = ⟨some r, false⟩ ∧ r.length < s.rest.length) ∧ rCl (s.more q) = ((rCl s).1, (rCl s).2.more q) := by
  obtain ⟨h1, h2, h3, h4⟩ := rCl_ok h
  exact ⟨h3, h4, rCl_more q h⟩
theorem rF_good {F : Int × RS → List CV × RS} {O : Int → List CV → Prop} {s : RS} {x y : Int × RS} (q : List UInt8)
    (hF : ∀ l r, (F (l, ⟨some r, false⟩)).2.bad = false → O l (F (l, ⟨some r, false⟩)).1 ∧ (∃ r', (F (l, ⟨some r, false⟩)).2 = ⟨some r', false⟩ ∧ r'.length ≤ r.length) ∧ F (l, ⟨some (r ++ q), false⟩) = ((F (l, ⟨some r, false⟩)).1, (F (l, ⟨some r, false⟩)).2.more q))
    (hbad : ∀ l t, (F (l, t)).2.bad = false → t.bad = false) (hx : x.2.bad = false → s.bad = false ∧ (∃ r, x.2 = ⟨some r, false⟩ ∧ r.length < s.rest.length) ∧ y = (x.1, x.2.more q)) (h : (F x).2.bad = false) :
    O x.1 (F x).1 ∧ x.2.bad = false ∧ Good s q (F x).1 (F y).1 (F x).2 (F y).2 := by
  obtain ⟨l, t⟩ := x
  have hb := hbad l t h
  obtain ⟨h1, ⟨r, h2, h3⟩, h4⟩ := hx hb
  simp only at h2 h4
  subst h2
  subst h4
  obtain ⟨a1, ⟨r', a2, a3⟩, a4⟩ := hF l r h
  have e : RS.more ⟨some r, false⟩ q = ⟨some (r ++ q), false⟩ := rfl
  refine ⟨a1, rfl, h1, ⟨r', a2, by omega⟩, ?_, ?_⟩
  · rw [e, a4]
  · rw [e, a4]
theorem i16_lt {n : Int} (h : IntKind.i16.wrap n = n) : n < 32768 := by simp [IntKind.wrap, IntKind.bits, IntKind.signed] at h; omega
theorem i32_lt {n : Int} (h : IntKind.i32.wrap n = n) : n < 2147483648 := by simp [IntKind.wrap, IntKind.bits, IntKind.signed] at h; omega
theorem wr_num {k : IntKind} {b : Nat} (hk : KB k b) (hb : 0 < b) {s : RS} (q : List UInt8) (h : (rI k b s).2.bad = false) :
    (∃ n, k.wrap n = n ∧ ([CV.int k (rI k b s).1] : List CV) = [.int k n]) ∧ Good s q [CV.int k (rI k b s).1] [CV.int k (rI k b (s.more q)).1] (rI k b s).2 (rI k b (s.more q)).2 := by
  obtain ⟨h1, h2, h3⟩ := num_good hk hb q h
  refine ⟨⟨_, (rI_ok hk h).2.2.1, rfl⟩, h1, h2, ?_, ?_⟩ <;> rw [h3]
theorem wr_nat {b : Nat} (hb : 0 < b) {s : RS} (q : List UInt8) (f : Nat → CV) (h : (rNat b s).2.bad = false) :
    Good s q [f (rNat b s).1] [f (rNat b (s.more q)).1] (rNat b s).2 (rNat b (s.more q)).2 := by
  obtain ⟨h1, h2, h3⟩ := rNat_ok h
  refine ⟨h2, ⟨s.rest.drop b, by rw [h3], by simp; omega⟩, ?_, ?_⟩ <;> rw [rNat_more q h]
theorem wr_prim (p : WPrim) (s : RS) (q : List UInt8) (h : (rprim p s).2.bad = false) : OkP p (rprim p s).1 ∧ Good s q (rprim p s).1 (rprim p (s.more q)).1 (rprim p s).2 (rprim p (s.more q)).2 := by
  cases p with
  | bool => exact ⟨⟨_, rfl⟩, wr_nat (by decide) q (fun x => .bool (x != 0)) h⟩
  | i8 => exact wr_num kb_i8 (by decide) q h
  | i16 => exact wr_num kb_i16 (by decide) q h
  | u16 => exact wr_num kb_u16 (by decide) q h
  | i32 => exact wr_num kb_i32 (by decide) q h
  | i64 => exact wr_num kb_i64 (by decide) q h
  | f64 =>
    refine ⟨⟨(rNat 8 s).1, ?_, rfl⟩, wr_nat (by decide) q (fun x => .flt x) h⟩
    obtain ⟨h1, h2, h3⟩ := rNat_ok (show (rNat 8 s).2.bad = false from h)
    rw [h3]
    have := beNat_lt (s.rest.take 8)
    rw [List.length_take, Nat.min_eq_left h1] at this
    simpa using this
  | uuid =>
    have h' : (rSpan 16 s).2.bad = false := h
    obtain ⟨h0, h1, h2, h3⟩ := rSpan_ok h'
    have hn : s.src ≠ none := by
      intro e
      simp [RS.rest, e] at h1
    have h3 := h3 hn
    have h4 : rSpan 16 (s.more q) = (some (s.rest.take 16), ⟨some (s.rest.drop 16 ++ q), false⟩) := by
      have := rSpan_longer (l := 16) (r := s.rest) q (by decide) h1
      show rSpan 16 ⟨some (s.rest ++ q), s.bad⟩ = _
      rw [h2]
      exact this
    have e1 : rprim .uuid s = ((s.rest.take 16).map (fun (x : UInt8) => CV.int .u8 x.toNat), ⟨some (s.rest.drop 16), false⟩) := by
      show ((match (rSpan 16 s).1 with
        | some l => l.map fun (x : UInt8) => CV.int .u8 x.toNat
        | none => List.replicate 16 (.int .u8 0)), (rSpan 16 s).2) = _
      rw [h3]; rfl
    have e2 : rprim .uuid (s.more q) = ((s.rest.take 16).map (fun (x : UInt8) => CV.int .u8 x.toNat), ⟨some (s.rest.drop 16 ++ q), false⟩) := by
      show ((match (rSpan 16 (s.more q)).1 with
        | some l => l.map fun (x : UInt8) => CV.int .u8 x.toNat
        | none => List.replicate 16 (.int .u8 0)), (rSpan 16 (s.more q)).2) = _
      rw [h4]
    rw [e1, e2]
    exact ⟨⟨s.rest.take 16, by simp; omega, rfl⟩, h2, ⟨_, rfl, by simp; omega⟩, rfl, rfl⟩
  | str =>
    obtain ⟨⟨t, h1, h2⟩, h3, h4⟩ := rF_good (F := rStr) (O := fun l v => ∃ t : List UInt8, (t.length : Int) = l ∧ v = [.str t]) (x := rI .i16 2 s) (y := rI .i16 2 (s.more q)) q (fun l r h => rStr_F q h) rStr_bad (fun h => num_good kb_i16 (by decide) q h) h
    exact ⟨⟨t, by have := i16_lt (rI_ok kb_i16 h3).2.2.1; omega, h2⟩, h4⟩
  | cstr =>
    obtain ⟨⟨t, h1, h2⟩, h3, h4⟩ := rF_good (F := rStr) (O := fun l v => ∃ t : List UInt8, (t.length : Int) = l ∧ v = [.str t]) (x := rCl s) (y := rCl (s.more q)) q (fun l r h => rStr_F q h) rStr_bad (fun h => cl_good q h) h
    exact ⟨⟨t, by have := (rCl_ok h3).2.1; omega, h2⟩, h4⟩
  | nstr =>
    obtain ⟨⟨o, h1, h2⟩, h3, h4⟩ := rF_good (F := rNstr) (O := fun l v => ∃ o : Option (List UInt8), (∀ t, o = some t → (t.length : Int) = l) ∧ v = [.pstr o]) (x := rI .i16 2 s) (y := rI .i16 2 (s.more q)) q (fun l r h => rNstr_F q h) rNstr_bad (fun h => num_good kb_i16 (by decide) q h) h
    exact ⟨⟨o, fun t ht => by have := i16_lt (rI_ok kb_i16 h3).2.2.1; have := h1 t ht; omega, h2⟩, h4⟩
  | cnstr =>
    obtain ⟨⟨o, h1, h2⟩, h3, h4⟩ := rF_good (F := rNstr) (O := fun l v => ∃ o : Option (List UInt8), (∀ t, o = some t → (t.length : Int) = l) ∧ v = [.pstr o]) (x := rCl s) (y := rCl (s.more q)) q (fun l r h => rNstr_F q h) rNstr_bad (fun h => cl_good q h) h
    exact ⟨⟨o, fun t ht => by have := (rCl_ok h3).2.1; have := h1 t ht; omega, h2⟩, h4⟩
  | byt =>
    obtain ⟨⟨t, h1, h2⟩, h3, h4⟩ := rF_good (F := rByt) (O := fun l v => ∃ t : List UInt8, ((t.length : Int) = l ∨ t = []) ∧ v = [.bytes (some t)]) (x := rI .i32 4 s) (y := rI .i32 4 (s.more q)) q (fun l r h => rByt_F q h) rByt_bad (fun h => num_good kb_i32 (by decide) q h) h
    refine ⟨⟨t, ?_, h2⟩, h4⟩
    rcases h1 with h1 | h1
    · have := i32_lt (rI_ok kb_i32 h3).2.2.1; omega
    · simp [h1]
  | cbyt =>
    obtain ⟨⟨t, h1, h2⟩, h3, h4⟩ := rF_good (F := rByt) (O := fun l v => ∃ t : List UInt8, ((t.length : Int) = l ∨ t = []) ∧ v = [.bytes (some t)]) (x := rCl s) (y := rCl (s.more q)) q (fun l r h => rByt_F q h) rByt_bad (fun h => cl_good q h) h
    refine ⟨⟨t, ?_, h2⟩, h4⟩
    rcases h1 with h1 | h1
    · have := (rCl_ok h3).2.1; omega
    · simp [h1]
  | nbyt =>
    obtain ⟨⟨o, h1, h2⟩, h3, h4⟩ := rF_good (F := rNbyt) (O := fun l v => ∃ o : Option (List UInt8), (∀ t, o = some t → (t.length : Int) = l) ∧ v = [.bytes o]) (x := rI .i32 4 s) (y := rI .i32 4 (s.more q)) q (fun l r h => rNbyt_F q h) rNbyt_bad (fun h => num_good kb_i32 (by decide) q h) h
    exact ⟨⟨o, fun t ht => by have := i32_lt (rI_ok kb_i32 h3).2.2.1; have := h1 t ht; omega, h2⟩, h4⟩
  | cnbyt =>
    obtain ⟨⟨o, h1, h2⟩, h3, h4⟩ := rF_good (F := rNbyt) (O := fun l v => ∃ o : Option (List UInt8), (∀ t, o = some t → (t.length : Int) = l) ∧ v = [.bytes o]) (x := rCl s) (y := rCl (s.more q)) q (fun l r h => rNbyt_F q h) rNbyt_bad (fun h => cl_good q h) h
    exact ⟨⟨o, fun t ht => by have := (rCl_ok h3).2.1; have := h1 t ht; omega, h2⟩, h4⟩
end Go.Proofs.Eng
/-! Schemas at one version: what is written by one is read by it, and the other way round; more bytes behind it are left alone. -/
namespace Go.Proofs.Eng
open Go

inductive Sch where
  | nil
  | prim (p : WPrim) (off : Nat) (k : Sch)
  | arr (c : Bool) (nul : Nat) (wl : LPrim) (off : Nat) (d : List CV) (body : Sch) (k : Sch)
  | tags (off : Nat) (k : Sch)
def wOf : Sch → WP
  | .nil => .nil
  | .prim p o k => .prim p o (wOf k)
  | .arr _ _ wl o d body k => .alen wl o (.loop o d.length (wOf body) (wOf k))
  | .tags o k => .tagn o (.tage o (wOf k))
def rOf : Sch → RP
  | .nil => .nil
  | .prim p o k => .prim p o (rOf k)
  | .arr c nul _ o d body k => .arr c nul o d (rOf body) (rOf k)
  | .tags o k => .tags o (rOf k)

def compact : LPrim → Bool
  | .cal | .cnal => true
  | _ => false
def plain : LPrim → Bool
  | .al | .cal => true
  | _ => false
def LOk (wl : LPrim) (c : Bool) (nul : Nat) : Bool := (compact wl == c) && (!plain wl || nul != 1)
def nlOk : Nat → Bool → Nat → Prop
  | 0, nl, n => nl = decide (n = 0)
  | 1, nl, n => nl = true → n = 0
  | _, nl, _ => nl = false
def pw : WPrim → Nat
  | .uuid => 16
  | _ => 1
/-- Offsets rise, and lie within so many cells; lists have things of at least one byte. -/
def SOk : Sch → Nat → Nat → Bool
  | .nil, _, _ => true
  | .prim p o k, lo, len => Nat.ble lo o && Nat.ble (o + pw p) len && SOk k (o + pw p) len
  | .tags o k, lo, len => Nat.ble lo o && Nat.blt o len && SOk k (o + 1) len
  | .arr c nul wl o d body k, lo, len => Nat.ble lo o && Nat.blt o len && LOk wl c nul && (match body with | .nil => false | _ => true) && SOk body 0 d.length && SOk k (o + 1) len

def TagsL (l : List (Nat × List UInt8)) : Prop := l.Pairwise (fun a b => a.1 < b.1) ∧ (∀ t ∈ l, t.1 < 4294967296 ∧ t.2.length < 4294967296) ∧ l.length < 2147483648
def RWs (R : List UInt8 → List CV → Prop) : Nat → List UInt8 → List CV → Prop
  | 0, b, es => b = [] ∧ es = []
  | n + 1, b, es => ∃ b1 e1 b2 es2, R b1 e1 ∧ b = b1 ++ b2 ∧ es = e1 ++ es2 ∧ RWs R n b2 es2
/-- 'b' is what is written of the cells 'out', and 'out' what is read of 'b' where the cells were 'cur'. -/
def RW : Sch → List CV → List UInt8 → List CV → Prop
  | .nil, cur, b, out => b = [] ∧ out = cur
  | .prim p o k, cur, b, out => ∃ v b', OkP p v ∧ b = wprim p v ++ b' ∧ RW k (setAt cur o v) b' out
  | .tags o k, cur, b, out => ∃ l b', TagsL l ∧ b = uv l.length ++ (l.flatMap wtag ++ b') ∧ RW k (setAt cur o [.tags l]) b' out
  | .arr _ nul wl o d body k, cur, b, out => ∃ nl n bs es b', nlOk nul nl n ∧ n < 2147483647 ∧ RWs (fun b e => RW body d b e) n bs es ∧ b = wlen wl nl n ++ (bs ++ b') ∧ RW k (setAt cur o [.arr nl n es]) b' out

theorem okP_len {p : WPrim} {v : List CV} (h : OkP p v) : v.length = pw p := by
  cases p with
  | uuid => obtain ⟨l, hl, rfl⟩ := h; simpa [pw] using hl
  | bool => obtain ⟨_, rfl⟩ := h; rfl
  | f64 => obtain ⟨_, _, rfl⟩ := h; rfl
  | _ => obtain ⟨_, _, rfl⟩ := h; rfl
theorem wprim_more {p : WPrim} {v : List CV} (h : OkP p v) (r : List CV) : wprim p (v ++ r) = wprim p v := by
  cases p with
  | uuid =>
    obtain ⟨l, hl, rfl⟩ := h
    show uuidOf (List.take 16 (_ ++ r)) = uuidOf (List.take 16 _)
    rw [List.take_append_of_le_length (by simp [hl])]
  | bool => obtain ⟨_, rfl⟩ := h; rfl
  | nstr => obtain ⟨o, _, rfl⟩ := h; cases o <;> rfl
  | cnstr => obtain ⟨o, _, rfl⟩ := h; cases o <;> rfl
  | nbyt => obtain ⟨o, _, rfl⟩ := h; cases o <;> rfl
  | cnbyt => obtain ⟨o, _, rfl⟩ := h; cases o <;> rfl
  | _ => obtain ⟨_, _, rfl⟩ := h; rfl
theorem uv_pos1 (n : Nat) : 1 ≤ (uv n).length := by
  unfold uv uvF
  split <;> simp
theorem wprim_pos {p : WPrim} {v : List CV} (h : OkP p v) : 1 ≤ (wprim p v).length := by
  cases p with
  | uuid =>
    obtain ⟨l, hl, rfl⟩ := h
    show 1 ≤ (uuidOf (List.take 16 _)).length
    rw [List.take_of_length_le (by simp [hl]), uuidOf_map]
    omega
  | bool => obtain ⟨_, rfl⟩ := h; simp [wprim]
  | nstr => obtain ⟨o, _, rfl⟩ := h; cases o <;> simp [wprim, be_length]; omega
  | cnstr => obtain ⟨o, _, rfl⟩ := h; cases o <;> simp only [wprim, cbytes, List.length_append] <;> have := uv_pos1 <;> first | exact this _ | exact Nat.le_trans (this _) (Nat.le_add_right _ _)
  | nbyt => obtain ⟨o, _, rfl⟩ := h; cases o <;> simp [wprim, be_length]; omega
  | cnbyt => obtain ⟨o, _, rfl⟩ := h; cases o <;> simp only [wprim, cbytes, List.length_append] <;> have := uv_pos1 <;> first | exact this _ | exact Nat.le_trans (this _) (Nat.le_add_right _ _)
  | cstr => obtain ⟨_, _, rfl⟩ := h; simp only [wprim, cbytes, List.length_append]; exact Nat.le_trans (uv_pos1 _) (Nat.le_add_right _ _)
  | cbyt => obtain ⟨_, _, rfl⟩ := h; simp only [wprim, cbytes, List.length_append]; exact Nat.le_trans (uv_pos1 _) (Nat.le_add_right _ _)
  | str => obtain ⟨_, _, rfl⟩ := h; simp [wprim, be_length]; omega
  | byt => obtain ⟨_, _, rfl⟩ := h; simp [wprim, be_length]; omega
  | _ => obtain ⟨_, _, rfl⟩ := h; simp [wprim, be_length]
theorem wlen_pos (wl : LPrim) (nl : Bool) (n : Nat) : 1 ≤ (wlen wl nl n).length := by
  cases wl <;> cases nl <;> simp only [wlen, be_length] <;> first | exact uv_pos1 _ | decide
theorem RW_pos {S : Sch} {cur : List CV} {b : List UInt8} {out : List CV} (hS : S ≠ .nil) (h : RW S cur b out) : 1 ≤ b.length := by
  cases S with
  | nil => exact absurd rfl hS
  | prim p o k => obtain ⟨v, b', h1, rfl, _⟩ := h; have := wprim_pos h1; simp; omega
  | tags o k => obtain ⟨l, b', h1, rfl, _⟩ := h; have := uv_pos1 l.length; simp; omega
  | arr c nul wl o d body k => obtain ⟨nl, n, bs, es, b', _, _, _, rfl, _⟩ := h; have := wlen_pos wl nl n; simp; omega
theorem RWs_pos {R : List UInt8 → List CV → Prop} (hR : ∀ b e, R b e → 1 ≤ b.length) : ∀ (n : Nat) (b : List UInt8) (es : List CV), RWs R n b es → n ≤ b.length := by
  intro n
  induction n with
  | zero => intro b es _; omega
  | succ n ih =>
    rintro b es ⟨b1, e1, b2, es2, h1, rfl, rfl, h2⟩
    have := hR _ _ h1
    have := ih _ _ h2
    simp
    omega

/-! ## lengths of lists -/
theorem i32_small (n : Int) (h1 : -2147483648 ≤ n) (h2 : n < 2147483648) : IntKind.i32.wrap n = n := by
  simp [IntKind.wrap, IntKind.bits, IntKind.signed]
  split <;> omega
theorem rLenOk_some {r : Int} {e : List UInt8} (h : r ≤ e.length) : rLenOk r ⟨some e, false⟩ = (r, ⟨some e, false⟩) := by
  unfold rLenOk
  rw [if_neg (by simp [RS.rest]; omega)]
theorem rw_len {wl : LPrim} {c : Bool} {nul : Nat} {nl : Bool} {n : Nat} {e : List UInt8} (h : LOk wl c nul = true) (hnl : nlOk nul nl n) (hn : n < 2147483647) (he : n ≤ e.length) :
    ∃ l, rlen c ⟨some (wlen wl nl n ++ e), false⟩ = (l, ⟨some e, false⟩) ∧ l.toNat = n ∧ isNil nul l = nl := by
  have hnil : isNil nul (n : Int) = nl ∨ (plain wl = false ∧ nl = true) := by
    match nul, hnl with
    | 0, hnl => left; simp only [nlOk] at hnl; rw [hnl]; simp [isNil]
    | 1, hnl =>
      cases nl with
      | true =>
        right
        refine ⟨?_, rfl⟩
        simp only [LOk, Bool.and_eq_true] at h
        have := h.2
        cases hp : plain wl <;> simp_all
      | false => left; simp [isNil]
    | k + 2, hnl => left; simp only [nlOk] at hnl; rw [hnl]; rfl
  simp only [LOk, Bool.and_eq_true, beq_iff_eq] at h
  have four : ∀ (m : Int), -1 ≤ m → m < 2147483648 → m ≤ e.length → rlen false ⟨some (be 4 m ++ e), false⟩ = (m, ⟨some e, false⟩) := by
    intro m h1 h2 h3
    have h4 := rI_read kb_i32 m (i32_small m (by omega) h2) e ⟨some (be 4 m ++ e), false⟩ rfl rfl
    show rLenOk (rI .i32 4 ⟨some (be 4 m ++ e), false⟩).1 (rI .i32 4 ⟨some (be 4 m ++ e), false⟩).2 = _
    rw [h4, rLenOk_some h3]
  have comp : ∀ (m : Nat), m < 2147483648 → (m : Int) - 1 ≤ e.length → rlen true ⟨some (uv m ++ e), false⟩ = ((m : Int) - 1, ⟨some e, false⟩) := by
    intro m h1 h2
    have h4 := uv_read m (by omega) e ⟨some (uv m ++ e), false⟩ rfl rfl
    show rLenOk (IntKind.i32.wrap (IntKind.i32.wrap (rUv ⟨some (uv m ++ e), false⟩).1 - 1)) (rUv ⟨some (uv m ++ e), false⟩).2 = _
    rw [h4]
    simp only
    rw [i32_small (m : Int) (by omega) (by omega), i32_small ((m : Int) - 1) (by omega) (by omega), rLenOk_some h2]
  have h0 : nl = true → n = 0 := by
    intro hnl2
    match nul, hnl with
    | 0, hnl => simp only [nlOk] at hnl; rw [hnl] at hnl2; simpa using hnl2
    | 1, hnl => exact hnl hnl2
    | k + 2, hnl => simp only [nlOk] at hnl; rw [hnl] at hnl2; cases hnl2
  have hneg : nl = true → isNil nul (-1) = true := by
    intro hnl2
    match nul, hnl with
    | 0, _ => rfl
    | 1, _ => rfl
    | k + 2, hnl => simp only [nlOk] at hnl; rw [hnl] at hnl2; cases hnl2
  obtain ⟨hc, hp⟩ := h
  subst hc
  have hm : (1 + n) % 4294967296 = n + 1 := by omega
  cases wl with
  | al => exact ⟨n, four n (by omega) (by omega) (by omega), by simp, hnil.resolve_right (by simp [plain])⟩
  | cal =>
    refine ⟨n, ?_, by simp, hnil.resolve_right (by simp [plain])⟩
    show rlen true ⟨some (uv ((1 + n) % 4294967296) ++ e), false⟩ = _
    rw [hm, comp (n + 1) (by omega) (by omega)]
    simp
  | nal =>
    cases nl with
    | true => exact ⟨-1, four (-1) (by omega) (by omega) (by omega), by rw [h0 rfl]; rfl, hneg rfl⟩
    | false => exact ⟨n, four n (by omega) (by omega) (by omega), by simp, hnil.resolve_right (by simp)⟩
  | cnal =>
    cases nl with
    | true =>
      refine ⟨-1, ?_, by rw [h0 rfl]; rfl, hneg rfl⟩
      show rlen true ⟨some (uv 0 ++ e), false⟩ = _
      rw [comp 0 (by omega) (by omega)]
      rfl
    | false =>
      refine ⟨n, ?_, by simp, hnil.resolve_right (by simp)⟩
      show rlen true ⟨some (uv ((1 + n) % 4294967296) ++ e), false⟩ = _
      rw [hm, comp (n + 1) (by omega) (by omega)]
      simp
theorem rLenOk_good {r : Int} {s : RS} (h : (rLenOk r s).2.bad = false) : rLenOk r s = (r, s) ∧ r ≤ s.rest.length ∧ s.bad = false := by
  unfold rLenOk at h ⊢
  split at h
  · cases h
  · rename_i hl
    rw [if_neg hl]
    exact ⟨rfl, by omega, h⟩
theorem wr_len {c : Bool} {s : RS} (q : List UInt8) (h : (rlen c s).2.bad = false) :
    s.bad = false ∧ (∃ r, (rlen c s).2 = ⟨some r, false⟩ ∧ r.length < s.rest.length ∧ (rlen c s).1 ≤ r.length) ∧ rlen c (s.more q) = ((rlen c s).1, (rlen c s).2.more q) := by
  have fin : ∀ (r : Int) (t : List UInt8), r ≤ t.length → rLenOk r (RS.more ⟨some t, false⟩ q) = (r, RS.more ⟨some t, false⟩ q) := by
    intro r t hr
    show rLenOk r ⟨some (t ++ q), false⟩ = _
    rw [rLenOk_some (by simp; omega)]
    rfl
  cases c with
  | false =>
    have h' : (rLenOk (rI .i32 4 s).1 (rI .i32 4 s).2).2.bad = false := h
    obtain ⟨h1, h2, h3⟩ := rLenOk_good h'
    obtain ⟨a1, ⟨r, a2, a3⟩, a4⟩ := num_good kb_i32 (by decide) q h3
    have e : rlen false s = ((rI .i32 4 s).1, ⟨some r, false⟩) := by
      show rLenOk (rI .i32 4 s).1 (rI .i32 4 s).2 = _
      rw [h1, a2]
    rw [e]
    rw [a2] at h2
    refine ⟨a1, ⟨r, rfl, a3, h2⟩, ?_⟩
    show rLenOk (rI .i32 4 (s.more q)).1 (rI .i32 4 (s.more q)).2 = _
    rw [a4, a2]
    exact fin _ _ h2
  | true =>
    have h' : (rLenOk (IntKind.i32.wrap (IntKind.i32.wrap (rUv s).1 - 1)) (rUv s).2).2.bad = false := h
    obtain ⟨h1, h2, h3⟩ := rLenOk_good h'
    obtain ⟨_, a1, r, a2, a3⟩ := rUv_lt h3
    have e : rlen true s = (IntKind.i32.wrap (IntKind.i32.wrap (rUv s).1 - 1), ⟨some r, false⟩) := by
      show rLenOk (IntKind.i32.wrap (IntKind.i32.wrap (rUv s).1 - 1)) (rUv s).2 = _
      rw [h1, a2]
    rw [e]
    rw [a2] at h2
    refine ⟨a1, ⟨r, rfl, a3, h2⟩, ?_⟩
    show rLenOk (IntKind.i32.wrap (IntKind.i32.wrap (rUv (s.more q)).1 - 1)) (rUv (s.more q)).2 = _
    rw [rUv_more q h3, a2]
    exact fin _ _ h2
theorem nlOk_isNil (nul : Nat) (l : Int) : nlOk nul (isNil nul l) l.toNat := by
  match nul with
  | 0 => simp only [nlOk, isNil]; congr 1; simp only [eq_iff_iff]; omega
  | 1 => simp only [nlOk, isNil, decide_eq_true_eq]; omega
  | k + 2 => rfl
end Go.Proofs.Eng
/-! Schemas: the laws of reading and writing. -/
namespace Go.Proofs.Eng
open Go

/-! ## what is written is read -/
theorem tagSet_last {k : Nat} {v : List UInt8} : ∀ {acc : List (Nat × List UInt8)}, (∀ t ∈ acc, t.1 < k) → tagSet k v acc = acc ++ [(k, v)] := by
  intro acc
  induction acc with
  | nil => intro _; rfl
  | cons t r ih =>
    intro h
    have h1 := h t (by simp)
    simp only [tagSet]
    rw [if_neg (by omega), if_neg (by omega), ih (fun u hu => h u (by simp [hu]))]
    rfl
theorem rTagsL_read : ∀ (l acc : List (Nat × List UInt8)) (e : List UInt8), (acc ++ l).Pairwise (fun a b => a.1 < b.1) → (∀ t ∈ l, t.1 < 4294967296 ∧ t.2.length < 4294967296) →
    rTagsL l.length acc ⟨some (l.flatMap wtag ++ e), false⟩ = (acc ++ l, ⟨some e, false⟩) := by
  intro l
  induction l with
  | nil => intro acc e _ _; simp [rTagsL]
  | cons t r ih =>
    intro acc e hp hb
    obtain ⟨hb1, hb2⟩ := hb t (by simp)
    have e1 := uv_read t.1 hb1 (uv t.2.length ++ (t.2 ++ (r.flatMap wtag ++ e))) ⟨some (uv t.1 ++ (uv t.2.length ++ (t.2 ++ (r.flatMap wtag ++ e)))), false⟩ rfl rfl
    have e2 := uv_read t.2.length hb2 (t.2 ++ (r.flatMap wtag ++ e)) ⟨some (uv t.2.length ++ (t.2 ++ (r.flatMap wtag ++ e))), false⟩ rfl rfl
    have e3 := rSpan_read t.2 (r.flatMap wtag ++ e)
    have hs : (t :: r).flatMap wtag ++ e = uv t.1 ++ (uv t.2.length ++ (t.2 ++ (r.flatMap wtag ++ e))) := by
      simp only [List.flatMap_cons, wtag, List.append_assoc]
      rw [Nat.mod_eq_of_lt hb2]
    have hlt : ∀ u ∈ acc, u.1 < t.1 := fun u hu => (List.pairwise_append.1 hp).2.2 u hu t (by simp)
    simp only [List.length_cons, rTagsL]
    rw [hs, e1]
    simp only
    rw [e2]
    simp only
    rw [e3]
    simp only [orNil]
    rw [tagSet_last hlt]
    rw [ih (acc ++ [(t.1, t.2)]) e (by simpa using hp) (fun u hu => hb u (by simp [hu]))]
    simp
theorem rTags_read {l : List (Nat × List UInt8)} (h : TagsL l) (e : List UInt8) : rTags ⟨some (uv l.length ++ (l.flatMap wtag ++ e)), false⟩ = (l, ⟨some e, false⟩) := by
  have h1 := uv_read l.length (by have := h.2.2; omega) (l.flatMap wtag ++ e) ⟨some (uv l.length ++ (l.flatMap wtag ++ e)), false⟩ rfl rfl
  unfold rTags
  rw [h1]
  simp only
  rw [rTagsL_read l [] e (by simpa using h.1) h.2.1]
  simp
theorem loop_read {f : List CV → RS → Option (List CV × RS)} {R : List UInt8 → List CV → Prop} {d : List CV} (hf : ∀ b e' e, R b e' → f d ⟨some (b ++ e), false⟩ = some (e', ⟨some e, false⟩)) :
    ∀ (n : Nat) (b : List UInt8) (es : List CV) (e : List UInt8), RWs R n b es → loopR f d n ⟨some (b ++ e), false⟩ = some (es, ⟨some e, false⟩) := by
  intro n
  induction n with
  | zero => rintro b es e ⟨rfl, rfl⟩; rfl
  | succ n ih =>
    rintro b es e ⟨b1, e1, b2, es2, h1, rfl, rfl, h2⟩
    simp only [loopR]
    rw [List.append_assoc, hf b1 e1 (b2 ++ e) h1]
    simp only
    rw [ih b2 es2 e h2]
theorem rd_of_wr : ∀ (S : Sch) (lo len : Nat) (cur : List CV) (b : List UInt8) (out : List CV) (e : List UInt8), SOk S lo len = true → RW S cur b out → runR (rOf S) cur ⟨some (b ++ e), false⟩ = some (out, ⟨some e, false⟩) := by
  intro S
  induction S with
  | nil => rintro lo len cur b out e _ ⟨rfl, rfl⟩; rfl
  | prim p o k ih =>
    rintro lo len cur b out e hS ⟨v, b', hv, rfl, hk⟩
    simp only [SOk, Bool.and_eq_true] at hS
    simp only [rOf, runR]
    rw [rw_prim p v (b' ++ e) ⟨some (wprim p v ++ b' ++ e), false⟩ hv (List.append_assoc _ _ _) rfl]
    exact ih _ _ _ _ _ e hS.2 hk
  | tags o k ih =>
    rintro lo len cur b out e hS ⟨l, b', hl, rfl, hk⟩
    simp only [SOk, Bool.and_eq_true] at hS
    simp only [rOf, runR]
    have := rTags_read hl (b' ++ e)
    rw [show uv l.length ++ (l.flatMap wtag ++ b') ++ e = uv l.length ++ (l.flatMap wtag ++ (b' ++ e)) by simp, this]
    exact ih _ _ _ _ _ e hS.2 hk
  | arr c nul wl o d body k ihb ihk =>
    rintro lo len cur b out e hS ⟨nl, n, bs, es, b', hnl, hn, hes, rfl, hk⟩
    simp only [SOk, Bool.and_eq_true] at hS
    obtain ⟨⟨⟨⟨⟨h1, h2⟩, h3⟩, h4⟩, h5⟩, h6⟩ := hS
    have hbody : body ≠ .nil := by rintro rfl; cases h4
    have hpos := RWs_pos (fun b e h => RW_pos hbody h) n bs es hes
    obtain ⟨l, a1, a2, a3⟩ := rw_len (e := bs ++ (b' ++ e)) h3 hnl hn (by simp; omega)
    have hs : wlen wl nl n ++ (bs ++ b') ++ e = wlen wl nl n ++ (bs ++ (b' ++ e)) := by simp
    have hloop := loop_read (f := fun e t => runR (rOf body) e t) (R := fun b e => RW body d b e) (d := d) (fun b e' e h => ihb _ _ _ _ _ e h5 h) n bs es (b' ++ e) hes
    simp only [rOf, runR]
    rw [hs, a1]
    simp only [Bool.false_eq_true, if_false]
    rw [a2, hloop]
    simp only
    rw [a3]
    exact ihk _ _ _ _ _ e h6 hk

/-! ## what is read is what would be written -/
theorem setAt_length {cs v : List CV} {o : Nat} (h : o + v.length ≤ cs.length) : (setAt cs o v).length = cs.length := by
  simp [setAt]; omega
theorem setAt_take {cs v : List CV} {o : Nat} (h : o + v.length ≤ cs.length) : (setAt cs o v).take (o + v.length) = cs.take o ++ v := by
  unfold setAt
  rw [← List.append_assoc]
  exact List.take_left' (by simp; omega)
theorem split_at {out cur v : List CV} {o w : Nat} (hw : v.length = w) (ho : o ≤ cur.length) (h : out.take (o + w) = cur.take o ++ v) : out.drop o = v ++ out.drop (o + w) := by
  have h1 := List.take_append_drop (o + w) out
  rw [h] at h1
  have h2 : (cur.take o).length = o := by simp; omega
  conv => lhs; rw [← h1]
  rw [List.append_assoc, List.drop_left' h2]
theorem flatMap_range1 {α : Type} (f : Nat → List α) (n : Nat) : (List.range (n + 1)).flatMap f = f 0 ++ (List.range n).flatMap (fun i => f (i + 1)) := by
  rw [List.range_succ_eq_map, List.flatMap_cons, List.flatMap_map]
theorem loop_write {w : List CV → List UInt8} {R : List UInt8 → List CV → Prop} {sz : Nat} (hR : ∀ b e, R b e → e.length = sz ∧ w e = b) :
    ∀ (n : Nat) (b : List UInt8) (es : List CV), RWs R n b es → (List.range n).flatMap (fun i => w (elem es sz i)) = b := by
  intro n
  induction n with
  | zero => rintro b es ⟨rfl, rfl⟩; rfl
  | succ n ih =>
    rintro b es ⟨b1, e1, b2, es2, h1, rfl, rfl, h2⟩
    obtain ⟨h3, h4⟩ := hR _ _ h1
    rw [flatMap_range1]
    have h5 : elem (e1 ++ es2) sz 0 = e1 := by simp [elem, List.take_append_of_le_length (show sz ≤ e1.length by omega), List.take_of_length_le (show e1.length ≤ sz by omega)]
    have h6 : ∀ i, elem (e1 ++ es2) sz (i + 1) = elem es2 sz i := by
      intro i
      simp only [elem]
      rw [Nat.succ_mul, Nat.add_comm, ← h3, ← List.drop_drop, List.drop_left]
    rw [h5, h4]
    simp only [h6]
    rw [ih b2 es2 h2]
theorem runW_of : ∀ (S : Sch) (lo len : Nat) (cur : List CV) (b : List UInt8) (out : List CV), SOk S lo len = true → cur.length = len → RW S cur b out → out.length = len ∧ out.take lo = cur.take lo ∧ runW (wOf S) out = b := by
  intro S
  induction S with
  | nil => rintro lo len cur b out _ hc ⟨rfl, rfl⟩; exact ⟨hc, rfl, rfl⟩
  | prim p o k ih =>
    rintro lo len cur b out hS hc ⟨v, b', hv, rfl, hk⟩
    simp only [SOk, Bool.and_eq_true] at hS
    obtain ⟨⟨h1, h2⟩, h3⟩ := hS
    have h1 := Nat.le_of_ble_eq_true h1
    have h2 := Nat.le_of_ble_eq_true h2
    have hvl := okP_len hv
    obtain ⟨a1, a2, a3⟩ := ih _ _ _ _ _ h3 (by rw [setAt_length (by omega)]; exact hc) hk
    have h4 := setAt_take (cs := cur) (v := v) (o := o) (by omega)
    rw [hvl] at h4
    rw [h4] at a2
    refine ⟨a1, ?_, ?_⟩
    · have := congrArg (List.take lo) a2
      rw [List.take_take, Nat.min_eq_left (by omega), List.take_append_of_le_length (by simp; omega), List.take_take, Nat.min_eq_left h1] at this
      exact this
    · simp only [wOf, runW]
      rw [split_at hvl (by omega) a2, wprim_more hv, a3]
  | tags o k ih =>
    rintro lo len cur b out hS hc ⟨l, b', hl, rfl, hk⟩
    simp only [SOk, Bool.and_eq_true] at hS
    obtain ⟨⟨h1, h2⟩, h3⟩ := hS
    have h1 := Nat.le_of_ble_eq_true h1
    have h2 : o < len := by simpa [Nat.blt_eq] using h2
    obtain ⟨a1, a2, a3⟩ := ih _ _ _ _ _ h3 (by rw [setAt_length (by simp; omega)]; exact hc) hk
    have h4 := setAt_take (cs := cur) (v := [.tags l]) (o := o) (by simp; omega)
    rw [show [CV.tags l].length = 1 from rfl] at h4
    rw [h4] at a2
    have h5 := split_at (w := 1) rfl (by omega) a2
    have h6 : out[o]? = some (.tags l) := by
      have := congrArg (fun x => x[0]?) h5
      simpa using this
    refine ⟨a1, ?_, ?_⟩
    · have := congrArg (List.take lo) a2
      rw [List.take_take, Nat.min_eq_left (by omega), List.take_append_of_le_length (by simp; omega), List.take_take, Nat.min_eq_left h1] at this
      exact this
    · simp only [wOf, runW, h6, wtagn, wtage, a3]
      rw [Nat.mod_eq_of_lt (by have := hl.2.2; omega)]
  | arr c nul wl o d body k ihb ihk =>
    rintro lo len cur b out hS hc ⟨nl, n, bs, es, b', hnl, hn, hes, rfl, hk⟩
    simp only [SOk, Bool.and_eq_true] at hS
    obtain ⟨⟨⟨⟨⟨h1, h2⟩, h3⟩, h4⟩, h5⟩, h6⟩ := hS
    have h1 := Nat.le_of_ble_eq_true h1
    have h2 : o < len := by simpa [Nat.blt_eq] using h2
    obtain ⟨a1, a2, a3⟩ := ihk _ _ _ _ _ h6 (by rw [setAt_length (by simp; omega)]; exact hc) hk
    have h7 := setAt_take (cs := cur) (v := [.arr nl n es]) (o := o) (by simp; omega)
    rw [show [CV.arr nl n es].length = 1 from rfl] at h7
    rw [h7] at a2
    have h8 := split_at (w := 1) rfl (by omega) a2
    have h9 : out[o]? = some (.arr nl n es) := by
      have := congrArg (fun x => x[0]?) h8
      simpa using this
    refine ⟨a1, ?_, ?_⟩
    · have := congrArg (List.take lo) a2
      rw [List.take_take, Nat.min_eq_left (by omega), List.take_append_of_le_length (by simp; omega), List.take_take, Nat.min_eq_left h1] at this
      exact this
    · simp only [wOf, runW, h9, walen]
      rw [loop_write (w := fun e => runW (wOf body) e) (R := fun b e => RW body d b e) (fun b e h => by
        obtain ⟨x1, _, x3⟩ := ihb _ _ _ _ _ h5 rfl h
        exact ⟨x1, x3⟩) n bs es hes, a3]
end Go.Proofs.Eng
/-! Schemas: what is read, without a failure, is what would be written; and it is read so with more bytes behind it. -/
namespace Go.Proofs.Eng
open Go

theorem tagSet_mem {k : Nat} {v : List UInt8} : ∀ {l : List (Nat × List UInt8)} {t : Nat × List UInt8}, t ∈ tagSet k v l → t = (k, v) ∨ t ∈ l := by
  intro l
  induction l with
  | nil => intro t h; simpa [tagSet] using h
  | cons u r ih =>
    intro t h
    simp only [tagSet] at h
    split at h
    · rcases List.mem_cons.1 h with h | h
      · exact .inl h
      · exact .inr h
    · split at h
      · rcases List.mem_cons.1 h with h | h
        · exact .inl h
        · exact .inr (List.mem_cons_of_mem _ h)
      · rcases List.mem_cons.1 h with h | h
        · exact .inr (h ▸ List.mem_cons_self)
        · exact (ih h).imp id (List.mem_cons_of_mem _)
theorem tagSet_sorted {k : Nat} {v : List UInt8} : ∀ {l : List (Nat × List UInt8)}, l.Pairwise (fun a b => a.1 < b.1) → (tagSet k v l).Pairwise (fun a b => a.1 < b.1) := by
  intro l
  induction l with
  | nil => intro _; simp [tagSet]
  | cons u r ih =>
    intro h
    obtain ⟨h1, h2⟩ := List.pairwise_cons.1 h
    simp only [tagSet]
    split
    · rename_i hk
      refine List.pairwise_cons.2 ⟨?_, h⟩
      intro t ht
      rcases List.mem_cons.1 ht with ht | ht
      · subst ht; exact hk
      · have := h1 t ht; show k < t.1; omega
    · split
      · rename_i hk
        refine List.pairwise_cons.2 ⟨?_, h2⟩
        intro t ht
        have := h1 t ht
        show k < t.1
        omega
      · refine List.pairwise_cons.2 ⟨?_, ih h2⟩
        intro t ht
        rcases tagSet_mem ht with ht | ht
        · subst ht; show u.1 < k; omega
        · exact h1 t ht
theorem tagSet_length (k : Nat) (v : List UInt8) : ∀ (l : List (Nat × List UInt8)), (tagSet k v l).length ≤ l.length + 1 := by
  intro l
  induction l with
  | nil => simp [tagSet]
  | cons u r ih =>
    simp only [tagSet]
    split
    · simp
    · split
      · simp
      · simp only [List.length_cons]; omega
theorem rTagsL_good (q : List UInt8) : ∀ (n : Nat) (acc : List (Nat × List UInt8)) (s : RS), (rTagsL n acc s).2.bad = false → s.rest.length < 2000000000 →
    s.bad = false ∧ (rTagsL n acc s).2.rest.length + n ≤ s.rest.length ∧ rTagsL n acc (s.more q) = ((rTagsL n acc s).1, (rTagsL n acc s).2.more q) ∧
    (acc.Pairwise (fun a b => a.1 < b.1) → (rTagsL n acc s).1.Pairwise (fun a b => a.1 < b.1)) ∧
    ((∀ t ∈ acc, t.1 < 4294967296 ∧ t.2.length < 4294967296) → ∀ t ∈ (rTagsL n acc s).1, t.1 < 4294967296 ∧ t.2.length < 4294967296) ∧ (rTagsL n acc s).1.length ≤ acc.length + n := by
  intro n
  induction n with
  | zero => intro acc s h _; exact ⟨h, Nat.le_refl _, rfl, id, id, Nat.le_refl _⟩
  | succ n ih =>
    intro acc s h hl
    simp only [rTagsL] at h ⊢
    -- what was not bad at the end was not bad before
    have hb3 : (rSpan ((rUv (rUv s).2).1 : Int) (rUv (rUv s).2).2).2.bad = false := by
      have key : ∀ (m : Nat) (a : List (Nat × List UInt8)) (t : RS), (rTagsL m a t).2.bad = false → t.bad = false := by
        intro m
        induction m with
        | zero => intro a t h; exact h
        | succ m ih2 =>
          intro a t h
          simp only [rTagsL] at h
          have h3 := span_bad (ih2 _ _ h)
          exact (rUv_lt (rUv_lt h3).2.1).2.1
      exact key _ _ _ h
    have hb2 : (rUv (rUv s).2).2.bad = false := span_bad hb3
    obtain ⟨l2, b1, r2, e2, c2⟩ := rUv_lt hb2
    obtain ⟨l1, b0, r1, e1, c1⟩ := rUv_lt b1
    have m1 := rUv_more q b1
    have m2 := rUv_more q hb2
    rw [e2] at hb3
    obtain ⟨g0, g1, g2⟩ := rSpan_good hb3
    have g3 := rSpan_longer q g0 g1
    have e2' : rSpan ((rUv (rUv s).2).1 : Int) (rUv (rUv s).2).2 = (some (r2.take ((rUv (rUv s).2).1 : Int).toNat), ⟨some (r2.drop ((rUv (rUv s).2).1 : Int).toNat), false⟩) := by rw [e2]; exact g2
    rw [e2'] at h ⊢
    simp only at h ⊢
    have hr1 : (rUv s).2.rest.length = r1.length := by rw [e1]; rfl
    have hl3 : (RS.rest ⟨some (r2.drop ((rUv (rUv s).2).1 : Int).toNat), false⟩).length ≤ r2.length := by simp [RS.rest]
    obtain ⟨i1, i2, i3, i4, i5, i6⟩ := ih _ _ h (by omega)
    refine ⟨b0, by omega, ?_, ?_, ?_, ?_⟩
    · rw [m1]
      simp only
      rw [m2]
      simp only
      rw [e2]
      show rTagsL n (tagSet (rUv s).1 (orNil (rSpan ((rUv (rUv s).2).1 : Int) ⟨some (r2 ++ q), false⟩).1) acc) (rSpan ((rUv (rUv s).2).1 : Int) ⟨some (r2 ++ q), false⟩).2 = _
      rw [g3]
      exact i3
    · intro hp; exact i4 (tagSet_sorted hp)
    · intro hp
      refine i5 ?_
      intro t ht
      rcases tagSet_mem ht with ht | ht
      · subst ht
        refine ⟨l1, ?_⟩
        simp only [orNil]
        simp
        omega
      · exact hp t ht
    · have := tagSet_length (rUv s).1 (orNil (some (r2.take ((rUv (rUv s).2).1 : Int).toNat))) acc
      omega
theorem rTags_good (q : List UInt8) (s : RS) (h : (rTags s).2.bad = false) (hl : s.rest.length < 2000000000) :
    s.bad = false ∧ (rTags s).2.rest.length < s.rest.length ∧ rTags (s.more q) = ((rTags s).1, (rTags s).2.more q) ∧ TagsL (rTags s).1 := by
  have h' : (rTagsL (rUv s).1 [] (rUv s).2).2.bad = false := h
  by_cases hu : (rUv s).2.bad = false
  · obtain ⟨l1, b0, r1, e1, c1⟩ := rUv_lt hu
    have hr1 : (rUv s).2.rest.length = r1.length := by rw [e1]; rfl
    obtain ⟨i1, i2, i3, i4, i5, i6⟩ := rTagsL_good q _ _ _ h' (by omega)
    refine ⟨b0, ?_, ?_, i4 (by simp), i5 (by simp), ?_⟩
    · show (rTagsL (rUv s).1 [] (rUv s).2).2.rest.length < _
      omega
    · show rTagsL (rUv (s.more q)).1 [] (rUv (s.more q)).2 = _
      rw [rUv_more q hu]
      exact i3
    · show (rTagsL (rUv s).1 [] (rUv s).2).1.length < _
      simp at i6
      omega
  · exfalso
    unfold rUv at hu h'
    split at hu
    · rename_i x r hx
      rw [hx] at h'
      simp only at hu h'
      obtain ⟨i1, _⟩ := rTagsL_good q _ _ _ h' (by
        have := rUvL_lt 4 1 0 _ _ _ hx (by omega)
        simp only [RS.rest]
        show r.length < _
        omega)
      exact hu i1
    · rename_i hx
      rw [hx] at h'
      cases h'
theorem rTagsL_bad : ∀ (m : Nat) (a : List (Nat × List UInt8)) (t : RS), (rTagsL m a t).2.bad = false → t.bad = false := by
  intro m
  induction m with
  | zero => intro a t h; exact h
  | succ m ih2 =>
    intro a t h
    simp only [rTagsL] at h
    have h3 := span_bad (ih2 _ _ h)
    exact (rUv_lt (rUv_lt h3).2.1).2.1
theorem rTags_bad {s : RS} (h : (rTags s).2.bad = false) : s.bad = false := (rUv_lt (rTagsL_bad _ _ _ h)).2.1
theorem loop_bad {f : List CV → RS → Option (List CV × RS)} {d : List CV} (hf : ∀ s e s', f d s = some (e, s') → s'.bad = false → s.bad = false) :
    ∀ (n : Nat) (s : RS) (es : List CV) (s' : RS), loopR f d n s = some (es, s') → s'.bad = false → s.bad = false := by
  intro n
  induction n with
  | zero => intro s es s' h hb; cases h; exact hb
  | succ n ih =>
    intro s es s' h hb
    simp only [loopR] at h
    cases h1 : f d s with
    | none => rw [h1] at h; cases h
    | some x =>
      obtain ⟨e1, s1⟩ := x
      rw [h1] at h
      simp only at h
      cases h2 : loopR f d n s1 with
      | none => rw [h2] at h; cases h
      | some y =>
        obtain ⟨es2, s2⟩ := y
        rw [h2] at h
        cases h
        exact hf _ _ _ h1 (ih _ _ _ h2 hb)
theorem runR_bad : ∀ (S : Sch) (cur : List CV) (s : RS) (out : List CV) (s' : RS), runR (rOf S) cur s = some (out, s') → s'.bad = false → s.bad = false := by
  intro S
  induction S with
  | nil => intro cur s out s' h hb; cases h; exact hb
  | prim p o k ih =>
    intro cur s out s' h hb
    simp only [rOf, runR] at h
    exact (wr_prim p s [] (ih _ _ _ _ h hb)).2.bad
  | tags o k ih =>
    intro cur s out s' h hb
    simp only [rOf, runR] at h
    exact rTags_bad (ih _ _ _ _ h hb)
  | arr c nul wl o d body k ihb ihk =>
    intro cur s out s' h hb
    simp only [rOf, runR] at h
    split at h
    · cases h
    · rename_i hbad
      exact (wr_len [] (by simpa using hbad)).1
theorem loop_good (q : List UInt8) {f : List CV → RS → Option (List CV × RS)} {R : List UInt8 → List CV → Prop} {d : List CV} (hs : ∀ s e s', f d s = some (e, s') → s'.bad = false → s.bad = false)
    (hf : ∀ s e s', f d s = some (e, s') → s'.bad = false → s.rest.length < 2000000000 → (∃ b, R b e) ∧ s'.rest.length ≤ s.rest.length ∧ f d (s.more q) = some (e, s'.more q)) :
    ∀ (n : Nat) (s : RS) (es : List CV) (s' : RS), loopR f d n s = some (es, s') → s'.bad = false → s.rest.length < 2000000000 →
      (∃ b, RWs R n b es) ∧ s'.rest.length ≤ s.rest.length ∧ loopR f d n (s.more q) = some (es, s'.more q) := by
  intro n
  induction n with
  | zero => intro s es s' h hb hl; cases h; exact ⟨⟨[], rfl, rfl⟩, Nat.le_refl _, rfl⟩
  | succ n ih =>
    intro s es s' h hb hl
    simp only [loopR] at h
    cases h1 : f d s with
    | none => rw [h1] at h; cases h
    | some x =>
      obtain ⟨e1, s1⟩ := x
      rw [h1] at h
      simp only at h
      cases h2 : loopR f d n s1 with
      | none => rw [h2] at h; cases h
      | some y =>
        obtain ⟨es2, s2⟩ := y
        rw [h2] at h
        cases h
        have hb1 := loop_bad hs n s1 es2 s' h2 hb
        obtain ⟨⟨b1, j1⟩, j3, j4⟩ := hf s e1 s1 h1 hb1 hl
        obtain ⟨⟨b2, i1⟩, i3, i4⟩ := ih s1 es2 s' h2 hb (by omega)
        refine ⟨⟨b1 ++ b2, b1, e1, b2, es2, j1, rfl, rfl, i1⟩, by omega, ?_⟩
        simp only [loopR]
        rw [j4]
        simp only
        rw [i4]
theorem wr_of_rd (q : List UInt8) : ∀ (S : Sch) (lo len : Nat) (cur : List CV) (s : RS) (out : List CV) (s' : RS), SOk S lo len = true → runR (rOf S) cur s = some (out, s') → s'.bad = false → s.rest.length < 2000000000 →
    (∃ b, RW S cur b out) ∧ s'.rest.length ≤ s.rest.length ∧ runR (rOf S) cur (s.more q) = some (out, s'.more q) := by
  intro S
  induction S with
  | nil => intro lo len cur s out s' _ h hb _; cases h; exact ⟨⟨[], rfl, rfl⟩, Nat.le_refl _, rfl⟩
  | prim p o k ih =>
    intro lo len cur s out s' hS h hb hl
    simp only [SOk, Bool.and_eq_true] at hS
    simp only [rOf, runR] at h ⊢
    have hb1 := runR_bad k _ _ _ _ h hb
    obtain ⟨g1, ⟨_, ⟨r, g2, g3⟩, g4, g5⟩⟩ := wr_prim p s q hb1
    have hr : (rprim p s).2.rest.length = r.length := by rw [g2]; rfl
    obtain ⟨⟨b, i1⟩, i2, i3⟩ := ih _ _ _ _ _ _ hS.2 h hb (by omega)
    exact ⟨⟨_, _, b, g1, rfl, i1⟩, by omega, by rw [g4, g5]; exact i3⟩
  | tags o k ih =>
    intro lo len cur s out s' hS h hb hl
    simp only [SOk, Bool.and_eq_true] at hS
    simp only [rOf, runR] at h ⊢
    have hb1 := runR_bad k _ _ _ _ h hb
    obtain ⟨_, g2, g3, g4⟩ := rTags_good q s hb1 hl
    obtain ⟨⟨b, i1⟩, i2, i3⟩ := ih _ _ _ _ _ _ hS.2 h hb (by omega)
    exact ⟨⟨_, _, b, g4, rfl, i1⟩, by omega, by rw [g3]; exact i3⟩
  | arr c nul wl o d body k ihb ihk =>
    intro lo len cur s out s' hS h hb hl
    simp only [SOk, Bool.and_eq_true] at hS
    obtain ⟨⟨⟨⟨⟨h1, h2⟩, h3⟩, h4⟩, h5⟩, h6⟩ := hS
    simp only [rOf, runR] at h ⊢
    split at h
    · cases h
    · rename_i hbad
      have hbad : (rlen c s).2.bad = false := by simpa using hbad
      obtain ⟨_, ⟨r, g2, g3, g4⟩, g5⟩ := wr_len q hbad
      have hr : (rlen c s).2.rest.length = r.length := by rw [g2]; rfl
      cases hlp : loopR (fun e t => runR (rOf body) e t) d (rlen c s).1.toNat (rlen c s).2 with
      | none => rw [hlp] at h; cases h
      | some x =>
        obtain ⟨es, t⟩ := x
        rw [hlp] at h
        simp only at h
        have hb1 := runR_bad k _ _ _ _ h hb
        obtain ⟨⟨bs, j1⟩, j2, j3⟩ := loop_good q (R := fun b e => RW body d b e) (fun s e s' a b => runR_bad body d s e s' a b) (fun s e s' a b c => ihb _ _ _ _ _ _ h5 a b c) _ _ _ _ hlp hb1 (by omega)
        obtain ⟨⟨b, i1⟩, i2, i3⟩ := ihk _ _ _ _ _ _ h6 h hb (by omega)
        refine ⟨⟨_, _, (rlen c s).1.toNat, bs, es, b, nlOk_isNil nul (rlen c s).1, by omega, j1, rfl, i1⟩, by omega, ?_⟩
        have hm : ((rlen c s).2.more q).bad = false := hbad
        rw [g5]
        simp only [hm, Bool.false_eq_true, if_false]
        rw [j3]
        exact i3

/-! ## the three laws -/
/-- What is read of any bytes is written as bytes that are read again, and written as the same. -/
theorem any_law {S : Sch} {d : List CV} {s : RS} {out : List CV} {s' : RS} (hS : SOk S 0 d.length = true) (h : runR (rOf S) d s = some (out, s')) (hb : s'.bad = false) (hl : s.rest.length < 2000000000) :
    runR (rOf S) d ⟨some (runW (wOf S) out), false⟩ = some (out, ⟨some [], false⟩) := by
  obtain ⟨⟨b, h1⟩, _⟩ := wr_of_rd [] S 0 d.length d s out s' hS h hb hl
  have h2 := (runW_of S 0 d.length d b out hS rfl h1).2.2
  have h3 := rd_of_wr S 0 d.length d b out [] hS h1
  rw [h2]
  simpa using h3
/-- What ends ahead of its end is refused. -/
theorem cut_law {S : Sch} {d : List CV} {b : List UInt8} {out : List CV} (hS : SOk S 0 d.length = true) (h : RW S d b out) (s : RS) (q : List UInt8) (hs : s.rest ++ q = b) (hq : q ≠ []) (hb0 : s.bad = false) (hl : s.rest.length < 2000000000) :
    ∀ out' s', runR (rOf S) d s = some (out', s') → s'.bad = true := by
  intro out' s' h1
  cases hb : s'.bad with
  | true => rfl
  | false =>
    exfalso
    obtain ⟨_, _, h2⟩ := wr_of_rd q S 0 d.length d s out' s' hS h1 hb hl
    have h3 := rd_of_wr S 0 d.length d b out [] hS h
    have e : s.more q = ⟨some (b ++ []), false⟩ := by simp [RS.more, hs, hb0]
    rw [e, h3] at h2
    simp only [Option.some.injEq, Prod.mk.injEq, RS.more, RS.mk.injEq] at h2
    have h4 := h2.2.1
    have : q = [] := by
      have := congrArg List.length h4
      simp at this
      exact List.length_eq_zero_iff.1 (by omega)
    exact hq this
end Go.Proofs.Eng
/-! What the reference writes of a tree is what a schema writes, where the schema fits the fields (a test by computing). -/
namespace Go.Proofs.Eng
open Go

theorem be_add (k : Nat) : ∀ (n q : Int), be k (n + (256 : Int) ^ k * q) = be k n := by
  induction k with
  | zero => intro n q; rfl
  | succ k ih =>
    intro n q
    have hp : (256 : Int) ^ k ≠ 0 := by
      have : (0 : Int) < 256 ^ k := Int.pow_pos (by decide)
      omega
    simp only [be]
    have e : n + (256 : Int) ^ (k + 1) * q = n + (256 : Int) ^ k * (256 * q) := by rw [Int.pow_succ, Int.mul_assoc]
    rw [e, ih, Int.add_mul_ediv_left _ _ hp]
    congr 2
    rw [Int.add_mul_emod_self_left]
theorem be_modx (k : Nat) (n : Int) : be k (n % (256 : Int) ^ k) = be k n := by
  have h := Int.mul_ediv_add_emod n ((256 : Int) ^ k)
  have e : n = n % (256 : Int) ^ k + (256 : Int) ^ k * (n / (256 : Int) ^ k) := by omega
  conv => rhs; rw [e]
  rw [be_add]
theorem be_wrap {k : IntKind} {b : Nat} (h : ∀ n : Int, k.wrap n % (256 : Int) ^ b = n % (256 : Int) ^ b) (n : Int) : be b (k.wrap n) = be b n := by
  rw [← be_modx b (k.wrap n), h, be_modx]
theorem wm_i8 (n : Int) : IntKind.i8.wrap n % (256 : Int) ^ 1 = n % (256 : Int) ^ 1 := by simp [IntKind.wrap, IntKind.bits, IntKind.signed]; split <;> omega
theorem wm_i16 (n : Int) : IntKind.i16.wrap n % (256 : Int) ^ 2 = n % (256 : Int) ^ 2 := by simp [IntKind.wrap, IntKind.bits, IntKind.signed]; split <;> omega
theorem wm_u16 (n : Int) : IntKind.u16.wrap n % (256 : Int) ^ 2 = n % (256 : Int) ^ 2 := by simp [IntKind.wrap, IntKind.bits, IntKind.signed]
theorem wm_i32 (n : Int) : IntKind.i32.wrap n % (256 : Int) ^ 4 = n % (256 : Int) ^ 4 := by simp [IntKind.wrap, IntKind.bits, IntKind.signed]; split <;> omega
theorem wm_i64 (n : Int) : IntKind.i64.wrap n % (256 : Int) ^ 8 = n % (256 : Int) ^ 8 := by simp [IntKind.wrap, IntKind.bits, IntKind.signed]; split <;> omega

/-- Whether a primitive serves a kind of fields. 'nb': the field may be null at this version. -/
def primOk (kind : Int) (nb flex : Bool) : WPrim → Bool
  | .bool => kind == 0
  | .i8 => kind == 1
  | .i16 => kind == 2
  | .u16 => kind == 5
  | .i32 => kind == 3
  | .i64 => kind == 4
  | .f64 => kind == 6
  | .uuid => kind == 7
  | .str => kind == 8 && !flex && !nb
  | .nstr => kind == 8 && !flex
  | .cstr => kind == 8 && flex && !nb
  | .cnstr => kind == 8 && flex
  | .byt => kind == 9 && !flex && !nb
  | .nbyt => kind == 9 && !flex
  | .cbyt => kind == 9 && flex && !nb
  | .cnbyt => kind == 9 && flex
theorem num_spec {k : IntKind} {b : Nat} (hk : KB k b) (hm : ∀ n : Int, k.wrap n % (256 : Int) ^ b = n % (256 : Int) ^ b) (n : Int) : ∃ m, k.wrap m = m ∧ be b m = be b n := ⟨k.wrap n, hk.2 n, be_wrap hm n⟩
theorem prim_spec {part : List Fld → Tree → List UInt8} {kind : Int} {sub : List Fld} {null nb flex : Bool} {t : Tree} {p : WPrim} (h : primOk kind nb flex p = true) (hn : null = true → nb = true) :
    ∃ v, OkP p v ∧ wprim p v = sValue part kind sub null flex t := by
  have take_lt : ∀ (s : List UInt8), (s.take 32767).length ≤ 32767 := fun s => by simp; omega
  have cb : ∀ (s : List UInt8), s.length ≤ 32767 → cbytes s = uv (s.length + 1) ++ s := fun s hs => by
    unfold cbytes
    rw [show (1 + s.length) % 4294967296 = s.length + 1 by omega]
  cases p with
  | bool =>
    simp only [primOk, beq_iff_eq] at h; subst h
    refine ⟨[.bool (decide (t.N % 2 ≠ 0))], ⟨_, rfl⟩, ?_⟩
    simp only [wprim, sValue, if_true, sBool]
    by_cases h2 : t.N % 2 = 0 <;> simp [h2]
  | i8 => simp only [primOk, beq_iff_eq] at h; subst h; obtain ⟨m, h1, h2⟩ := num_spec kb_i8 wm_i8 t.N; exact ⟨_, ⟨m, h1, rfl⟩, h2⟩
  | i16 => simp only [primOk, beq_iff_eq] at h; subst h; obtain ⟨m, h1, h2⟩ := num_spec kb_i16 wm_i16 t.N; exact ⟨_, ⟨m, h1, rfl⟩, h2⟩
  | u16 => simp only [primOk, beq_iff_eq] at h; subst h; obtain ⟨m, h1, h2⟩ := num_spec kb_u16 wm_u16 t.N; exact ⟨_, ⟨m, h1, rfl⟩, h2⟩
  | i32 => simp only [primOk, beq_iff_eq] at h; subst h; obtain ⟨m, h1, h2⟩ := num_spec kb_i32 wm_i32 t.N; exact ⟨_, ⟨m, h1, rfl⟩, h2⟩
  | i64 => simp only [primOk, beq_iff_eq] at h; subst h; obtain ⟨m, h1, h2⟩ := num_spec kb_i64 wm_i64 t.N; exact ⟨_, ⟨m, h1, rfl⟩, h2⟩
  | f64 =>
    simp only [primOk, beq_iff_eq] at h; subst h
    have h1 : 0 ≤ t.N % (256 : Int) ^ 8 := Int.emod_nonneg _ (by decide)
    have h2 : t.N % (256 : Int) ^ 8 < (256 : Int) ^ 8 := Int.emod_lt_of_pos _ (by decide)
    refine ⟨[.flt (t.N % (256 : Int) ^ 8).toNat], ⟨_, by omega, rfl⟩, ?_⟩
    show be 8 (((t.N % (256 : Int) ^ 8).toNat : Nat) : Int) = be 8 t.N
    rw [Int.toNat_of_nonneg h1, be_modx]
  | uuid =>
    simp only [primOk, beq_iff_eq] at h; subst h
    have hl : (sUuid t.S).length = 16 := by simp [sUuid]; omega
    refine ⟨(sUuid t.S).map fun (x : UInt8) => CV.int .u8 x.toNat, ⟨_, hl, rfl⟩, ?_⟩
    show uuidOf (List.take 16 _) = sUuid t.S
    rw [List.take_of_length_le (by simp [hl]), uuidOf_map]
  | str =>
    simp only [primOk, Bool.and_eq_true, beq_iff_eq, Bool.not_eq_true'] at h
    obtain ⟨⟨rfl, rfl⟩, rfl⟩ := h
    obtain rfl : null = false := by cases null; rfl; exact absurd (hn rfl) (by simp)
    exact ⟨[.str (t.S.take 32767)], ⟨_, by have := take_lt t.S; omega, rfl⟩, rfl⟩
  | nstr =>
    simp only [primOk, Bool.and_eq_true, beq_iff_eq, Bool.not_eq_true'] at h
    obtain ⟨rfl, rfl⟩ := h
    cases null with
    | true => exact ⟨[.pstr none], ⟨none, by simp, rfl⟩, by simp [wprim, sValue, sText, sCounted]⟩
    | false => exact ⟨[.pstr (some (t.S.take 32767))], ⟨_, fun s hs => by cases hs; have := take_lt t.S; omega, rfl⟩, rfl⟩
  | cstr =>
    simp only [primOk, Bool.and_eq_true, beq_iff_eq, Bool.not_eq_true'] at h
    obtain ⟨⟨rfl, rfl⟩, rfl⟩ := h
    obtain rfl : null = false := by cases null; rfl; exact absurd (hn rfl) (by simp)
    exact ⟨[.str (t.S.take 32767)], ⟨_, by have := take_lt t.S; omega, rfl⟩, cb _ (take_lt t.S)⟩
  | cnstr =>
    simp only [primOk, Bool.and_eq_true, beq_iff_eq, Bool.not_eq_true'] at h
    obtain ⟨rfl, rfl⟩ := h
    cases null with
    | true => exact ⟨[.pstr none], ⟨none, by simp, rfl⟩, rfl⟩
    | false => exact ⟨[.pstr (some (t.S.take 32767))], ⟨_, fun s hs => by cases hs; have := take_lt t.S; omega, rfl⟩, cb _ (take_lt t.S)⟩
  | byt =>
    simp only [primOk, Bool.and_eq_true, beq_iff_eq, Bool.not_eq_true'] at h
    obtain ⟨⟨rfl, rfl⟩, rfl⟩ := h
    obtain rfl : null = false := by cases null; rfl; exact absurd (hn rfl) (by simp)
    exact ⟨[.bytes (some (t.S.take 32767))], ⟨_, by have := take_lt t.S; omega, rfl⟩, rfl⟩
  | nbyt =>
    simp only [primOk, Bool.and_eq_true, beq_iff_eq, Bool.not_eq_true'] at h
    obtain ⟨rfl, rfl⟩ := h
    cases null with
    | true => exact ⟨[.bytes none], ⟨none, by simp, rfl⟩, by simp [wprim, sValue, sText, sCounted]⟩
    | false => exact ⟨[.bytes (some (t.S.take 32767))], ⟨_, fun s hs => by cases hs; have := take_lt t.S; omega, rfl⟩, rfl⟩
  | cbyt =>
    simp only [primOk, Bool.and_eq_true, beq_iff_eq, Bool.not_eq_true'] at h
    obtain ⟨⟨rfl, rfl⟩, rfl⟩ := h
    obtain rfl : null = false := by cases null; rfl; exact absurd (hn rfl) (by simp)
    exact ⟨[.bytes (some (t.S.take 32767))], ⟨_, by have := take_lt t.S; omega, rfl⟩, cb _ (take_lt t.S)⟩
  | cnbyt =>
    simp only [primOk, Bool.and_eq_true, beq_iff_eq, Bool.not_eq_true'] at h
    obtain ⟨rfl, rfl⟩ := h
    cases null with
    | true => exact ⟨[.bytes none], ⟨none, by simp, rfl⟩, rfl⟩
    | false => exact ⟨[.bytes (some (t.S.take 32767))], ⟨_, fun s hs => by cases hs; have := take_lt t.S; omega, rfl⟩, cb _ (take_lt t.S)⟩
end Go.Proofs.Eng
/-! A schema that fits the fields of the reference: what the reference writes of a tree is what the schema writes. -/
namespace Go.Proofs.Eng
open Go

def isNilS : Option Sch → Bool
  | some .nil => true
  | _ => false
/-- Fields that all have no tags, at a version, against a schema; what is left of the schema. -/
def mOne (m : List Fld → Sch → Option Sch) (ver : Int) (flex : Bool) (f : Fld) (S : Sch) : Option Sch :=
  let nb := decide (0 ≤ f.null) && decide (f.null ≤ ver)
  if f.kind = 10 then (if f.null < 0 then m f.sub S else none)
  else match S with
  | .prim p _ k => if primOk f.kind nb flex p then some k else none
  | .arr c nul wl _ _ body k =>
    if decide (f.kind = 11) && (compact wl == flex) && (if nb then !plain wl && nul == 1 else (plain wl || nul != 0) && (nul != 1 || !plain wl)) &&
      (if f.of = 10 then isNilS (m f.sub body) else decide (f.of ≠ 10) && (match body with
        | .prim p _ .nil => primOk f.of false flex p
        | _ => false)) then some k else none
  | _ => none
def mAll (m : List Fld → Sch → Option Sch) (ver : Int) (flex : Bool) : List Fld → Sch → Option Sch
  | [], S => if flex then (match S with | .tags _ k => some k | _ => none) else some S
  | f :: r, S => if f.tag < 0 then (if sHas f ver then (match mOne m ver flex f S with | some S' => mAll m ver flex r S' | none => none) else mAll m ver flex r S) else none
def mF : Nat → Int → Bool → List Fld → Sch → Option Sch
  | 0, _, _, _, _ => none
  | d + 1, ver, flex, fs, S => mAll (mF d ver flex) ver flex fs S

/-- Unknown tags are of 32 bits. -/
def G32 (l : List (Nat × List UInt8)) : Prop := ∀ t ∈ l, t.1 < 4294967296
/-- 'b' leads from the schema S at the cells cur to S'. -/
def Leads (S : Sch) (cur : List CV) (b : List UInt8) (S' : Sch) : Prop := ∃ cur', ∀ b' out, RW S' cur' b' out → RW S cur (b ++ b') out
theorem Leads.nil (S : Sch) (cur : List CV) : Leads S cur [] S := ⟨cur, fun _ _ h => h⟩
theorem Leads.trans {S S' S'' : Sch} {cur : List CV} {b b' : List UInt8} (h : Leads S cur b S') (h' : ∀ cur', Leads S' cur' b' S'') : Leads S cur (b ++ b') S'' := by
  obtain ⟨c1, h1⟩ := h
  obtain ⟨c2, h2⟩ := h' c1
  exact ⟨c2, fun b2 out hr => by rw [List.append_assoc]; exact h1 _ _ (h2 _ _ hr)⟩
theorem sIns_mem {t : Nat × List UInt8} : ∀ {l : List (Nat × List UInt8)} {u : Nat × List UInt8}, u ∈ sIns t l → u = t ∨ u ∈ l := by
  intro l
  induction l with
  | nil => intro u h; simpa [sIns] using h
  | cons x r ih =>
    intro u h
    simp only [sIns] at h
    split at h
    · rcases List.mem_cons.1 h with h | h
      · exact .inr (h ▸ List.mem_cons_self)
      · exact (ih h).imp id (List.mem_cons_of_mem _)
    · split at h
      · exact .inr h
      · rcases List.mem_cons.1 h with h | h
        · exact .inl h
        · exact .inr h
theorem sIns_sorted {t : Nat × List UInt8} : ∀ {l : List (Nat × List UInt8)}, l.Pairwise (fun a b => a.1 < b.1) → (sIns t l).Pairwise (fun a b => a.1 < b.1) := by
  intro l
  induction l with
  | nil => intro _; simp [sIns]
  | cons x r ih =>
    intro h
    obtain ⟨h1, h2⟩ := List.pairwise_cons.1 h
    simp only [sIns]
    split
    · rename_i hx
      refine List.pairwise_cons.2 ⟨?_, ih h2⟩
      intro u hu
      rcases sIns_mem hu with hu | hu
      · subst hu; exact hx
      · exact h1 u hu
    · split
      · exact h
      · rename_i hx hy
        refine List.pairwise_cons.2 ⟨?_, h⟩
        intro u hu
        rcases List.mem_cons.1 hu with hu | hu
        · subst hu; omega
        · have := h1 u hu; omega
theorem sIns_length (t : Nat × List UInt8) : ∀ (l : List (Nat × List UInt8)), (sIns t l).length ≤ l.length + 1 := by
  intro l
  induction l with
  | nil => simp [sIns]
  | cons x r ih =>
    simp only [sIns]
    split
    · simp only [List.length_cons]; omega
    · split <;> simp
theorem unknown_good {fs : List Fld} {l : List (Nat × List UInt8)} (hl : G32 l) : (sUnknown fs l).Pairwise (fun a b => a.1 < b.1) ∧ G32 (sUnknown fs l) ∧ (sUnknown fs l).length ≤ 32767 := by
  have key : ∀ (l acc : List (Nat × List UInt8)), G32 l → G32 acc → acc.Pairwise (fun a b => a.1 < b.1) →
      (l.foldl (fun out t => if t.1 < sKnown fs then out else sIns t out) acc).Pairwise (fun a b => a.1 < b.1) ∧ G32 (l.foldl (fun out t => if t.1 < sKnown fs then out else sIns t out) acc) ∧
      (l.foldl (fun out t => if t.1 < sKnown fs then out else sIns t out) acc).length ≤ acc.length + l.length := by
    intro l
    induction l with
    | nil => intro acc _ h2 h3; exact ⟨h3, h2, by simp⟩
    | cons t r ih =>
      intro acc h1 h2 h3
      simp only [List.foldl_cons]
      have hr : G32 r := fun u hu => h1 u (by simp [hu])
      split
      · obtain ⟨a, b, c⟩ := ih acc hr h2 h3
        exact ⟨a, b, by simp only [List.length_cons]; omega⟩
      · obtain ⟨a, b, c⟩ := ih (sIns t acc) hr (fun u hu => by
          rcases sIns_mem hu with hu | hu
          · subst hu; exact h1 _ (by simp)
          · exact h2 u hu) (sIns_sorted h3)
        refine ⟨a, b, ?_⟩
        have := sIns_length t acc
        simp only [List.length_cons]
        omega
  have h1 : G32 (l.take 32767) := fun t ht => hl t (List.mem_of_mem_take ht)
  obtain ⟨a, b, c⟩ := key (l.take 32767) [] h1 (fun t ht => by simp at ht) (by simp)
  refine ⟨a, b, ?_⟩
  have : (l.take 32767).length ≤ 32767 := by simp; omega
  simp only [List.length_nil, Nat.zero_add] at c
  exact Nat.le_trans c this
theorem tags_part {fs : List Fld} {U : List (Nat × List UInt8)} (hU : G32 U) : ∃ l, TagsL l ∧ uv ((sUnknown fs U).map fun u => sWtag (u.2.take 32767) u.1).length ++ ((sUnknown fs U).map fun u => sWtag (u.2.take 32767) u.1).flatten = uv l.length ++ l.flatMap wtag := by
  obtain ⟨h1, h2, h3⟩ := unknown_good (fs := fs) hU
  refine ⟨(sUnknown fs U).map fun u => (u.1, u.2.take 32767), ⟨?_, ?_, by simp; omega⟩, ?_⟩
  · rw [List.pairwise_map]; exact h1
  · intro t ht
    obtain ⟨u, hu, rfl⟩ := List.mem_map.1 ht
    refine ⟨h2 u hu, ?_⟩
    have : (u.2.take 32767).length ≤ 32767 := by simp; omega
    show (u.2.take 32767).length < _
    omega
  · rw [List.length_map, List.length_map, List.flatMap_map]
    congr 1
    rw [← List.flatMap_def]
    congr 1
    funext u
    have : (u.2.take 32767).length ≤ 32767 := by simp; omega
    simp only [sWtag, wtag]
    rw [Nat.mod_eq_of_lt (by omega)]
theorem known0 {ver : Int} {flex : Bool} {m : List Fld → Sch → Option Sch} : ∀ {fs : List Fld} {S S' : Sch}, mAll m ver flex fs S = some S' → sKnown fs = 0 := by
  intro fs
  induction fs with
  | nil => intro _ _ _; rfl
  | cons f r ih =>
    intro S S' h
    simp only [mAll] at h
    split at h
    · rename_i ht
      have hr : sKnown r = 0 := by
        split at h
        · split at h
          · exact ih h
          · cases h
        · exact ih h
      simp only [sKnown]
      rw [if_neg (by omega), hr]
    · cases h
theorem elems_write {R : List UInt8 → List CV → Prop} {g : Tree → List UInt8} : ∀ (l : List Tree), (∀ t ∈ l, ∃ e, R (g t) e) → ∃ es, RWs R l.length (l.flatMap g) es := by
  intro l
  induction l with
  | nil => intro _; exact ⟨[], rfl, rfl⟩
  | cons t r ih =>
    intro h
    obtain ⟨e1, h1⟩ := h t (by simp)
    obtain ⟨es2, h2⟩ := ih (fun u hu => h u (by simp [hu]))
    exact ⟨e1 ++ es2, g t, e1, r.flatMap g, es2, h1, by simp, rfl, h2⟩
theorem one_leads {part : List Fld → Tree → List UInt8} {m : List Fld → Sch → Option Sch} {ver : Int} {flex : Bool}
    (hm : ∀ fs S S' t cur, m fs S = some S' → TOk G32 t → Leads S cur (part fs t) S') {f : Fld} {S S' : Sch} {t : Tree} (cur : List CV) (h : mOne m ver flex f S = some S') (ht : TOk G32 t) :
    Leads S cur (sField part ver flex f t) S' := by
  unfold mOne at h
  simp only at h
  obtain ⟨nb, hnb⟩ : ∃ nb, (decide (0 ≤ f.null) && decide (f.null ≤ ver)) = nb := ⟨_, rfl⟩
  obtain ⟨null, hnull⟩ : ∃ null, sNull f ver t = null := ⟨_, rfl⟩
  have hnn : null = true → nb = true := by
    intro e
    rw [e] at hnull
    simp only [sNull, Bool.and_eq_true] at hnull
    rw [← hnb]
    simp [hnull.2]
  rw [hnb] at h
  by_cases h10 : f.kind = 10
  · rw [if_pos h10] at h
    split at h
    · rename_i hneg
      have e : sField part ver flex f t = part f.sub t := by
        simp only [sField, h10]
        simp [show ¬ (0 ≤ f.null) by omega, sValue]
      rw [e]
      exact hm _ _ _ _ _ h ht
    · cases h
  · rw [if_neg h10] at h
    cases S with
    | nil => cases h
    | tags o k => cases h
    | prim p o k =>
      simp only at h
      split at h
      · rename_i hp
        cases h
        have h11 : f.kind ≠ 11 := by intro e; rw [e] at hp; cases p <;> simp [primOk] at hp
        obtain ⟨v, hv, hw⟩ := prim_spec (part := part) (sub := f.sub) (null := null) (t := t) hp hnn
        have e : sField part ver flex f t = wprim p v := by
          rw [hw]
          simp only [sField, hnull]
          rw [if_neg h11, if_neg (by simp [h10])]
        rw [e]
        exact ⟨setAt cur o v, fun b' out hr => ⟨v, b', hv, rfl, hr⟩⟩
      · cases h
    | arr c nul wl o dd body k =>
      simp only at h
      obtain ⟨hc, h⟩ := Option.ite_none_right_eq_some.1 h
      · cases h
        simp only [Bool.and_eq_true, decide_eq_true_eq, beq_iff_eq] at hc
        obtain ⟨⟨⟨h11, hcomp⟩, hnul⟩, hbody⟩ := hc
        obtain ⟨l, hl⟩ : ∃ l, (if null then [] else t.L.take 32767) = l := ⟨_, rfl⟩
        have hll : l.length ≤ 32767 := by rw [← hl]; split <;> simp; omega
        have hmem : ∀ u ∈ l, TOk G32 u := by
          intro u hu
          rw [← hl] at hu
          split at hu
          · simp at hu
          · have := List.mem_of_mem_take hu
            cases ht with
            | mk N S nl L U _ _ _ hL => exact hL u this
        have e : sField part ver flex f t = sCounted flex null l.length 4 ++ l.flatMap (sValue part f.of f.sub false flex) := by
          simp only [sField, h11, if_true, hnull, hl]
        rw [e]
        obtain ⟨es, hes⟩ : ∃ es, RWs (fun b e => RW body dd b e) l.length (l.flatMap (sValue part f.of f.sub false flex)) es := by
          refine elems_write l (fun u hu => ?_)
          by_cases ho : f.of = 10
          · rw [if_pos ho] at hbody
            cases hmb : m f.sub body with
            | none => rw [hmb] at hbody; cases hbody
            | some Sb =>
              rw [hmb] at hbody
              cases Sb with
              | nil =>
                obtain ⟨cur', hlead⟩ := hm _ _ _ u dd hmb (hmem u hu)
                refine ⟨cur', ?_⟩
                have := hlead [] cur' ⟨rfl, rfl⟩
                have e2 : sValue part f.of f.sub false flex u = part f.sub u := by simp [sValue, ho]
                rw [e2]
                simpa using this
              | _ => cases hbody
          · rw [if_neg ho] at hbody
            simp only [Bool.and_eq_true] at hbody
            have hb2 := hbody.2
            split at hb2
            · rename_i p o' 
              obtain ⟨v, hv, hw⟩ := prim_spec (part := part) (sub := f.sub) (null := false) (t := u) hb2 (by simp)
              exact ⟨setAt dd o' v, v, [], hv, by rw [List.append_nil, hw], rfl, rfl⟩
            · cases hb2
        obtain ⟨nl, hn1, hn2⟩ : ∃ nl, nlOk nul nl l.length ∧ sCounted flex null l.length 4 = wlen wl nl l.length := by
          have hcnt : (1 + l.length) % 4294967296 = l.length + 1 := by omega
          cases hnv : null with
          | true =>
            have hb := hnn hnv
            rw [hb] at hnul
            simp only [if_true, Bool.and_eq_true, Bool.not_eq_true', beq_iff_eq] at hnul
            obtain ⟨hp, rfl⟩ := hnul
            have hl0 : l.length = 0 := by rw [← hl, hnv]; rfl
            refine ⟨true, fun _ => hl0, ?_⟩
            subst hcomp
            cases wl <;> simp [plain] at hp <;> simp [sCounted, wlen, compact] <;> rfl
          | false =>
            have hcount : ∀ nl, (plain wl = true ∨ nl = false) → sCounted flex false l.length 4 = wlen wl nl l.length := by
              intro nl hh
              subst hcomp
              cases wl with
              | al => simp [sCounted, compact, wlen]
              | cal => simp only [sCounted, compact, wlen, hcnt]; simp
              | nal => rcases hh with hh | hh; simp [plain] at hh; subst hh; simp [sCounted, compact, wlen]
              | cnal => rcases hh with hh | hh; simp [plain] at hh; subst hh; simp only [sCounted, compact, wlen, hcnt]; simp
            cases nb with
            | true =>
              simp only [if_true, Bool.and_eq_true, Bool.not_eq_true', beq_iff_eq] at hnul
              obtain ⟨_, rfl⟩ := hnul
              exact ⟨false, (fun h => by cases h), hcount false (.inr rfl)⟩
            | false =>
              simp only [Bool.false_eq_true, if_false, Bool.and_eq_true, Bool.or_eq_true, bne_iff_ne, ne_eq, Bool.not_eq_true'] at hnul
              match nul, hnul with
              | 0, hnul => exact ⟨decide (l.length = 0), rfl, hcount _ (.inl (hnul.1.resolve_right (by simp)))⟩
              | 1, hnul => exact ⟨false, (fun h => by cases h), hcount false (.inr rfl)⟩
              | j + 2, hnul => exact ⟨false, rfl, hcount false (.inr rfl)⟩
        rw [hn2]
        exact ⟨setAt cur o [.arr nl l.length es], fun b' out hr => ⟨nl, l.length, _, es, b', hn1, by omega, hes, by simp, hr⟩⟩
theorem plain_leads {fd : Fld → Tree → List UInt8} {m : List Fld → Sch → Option Sch} {ver : Int} {flex : Bool} {t : Tree}
    (h1 : ∀ f S S' cur i, mOne m ver flex f S = some S' → Leads S cur (fd f (sAt t i)) S') :
    ∀ (fs : List Fld) (S S' : Sch) (cur : List CV) (i : Nat), mAll m ver flex fs S = some S' → ∃ S1, Leads S cur (sPlain fd ver t fs i) S1 ∧ (if flex then (match S1 with | .tags _ k => some k | _ => none) else some S1) = some S' := by
  intro fs
  induction fs with
  | nil => intro S S' cur i h; exact ⟨S, Leads.nil _ _, h⟩
  | cons f r ih =>
    intro S S' cur i h
    simp only [mAll] at h
    split at h
    · rename_i ht
      split at h
      · rename_i hh
        cases ho : mOne m ver flex f S with
        | none => rw [ho] at h; cases h
        | some S2 =>
          rw [ho] at h
          obtain ⟨cur', hl⟩ := h1 f S S2 cur i ho
          obtain ⟨S1, hl2, he⟩ := ih S2 S' cur' (i + 1) h
          refine ⟨S1, ?_, he⟩
          simp only [sPlain, ht, hh, decide_true, Bool.and_self, if_true]
          obtain ⟨c2, hl3⟩ := hl2
          exact ⟨c2, fun b out hr => by rw [List.append_assoc]; exact hl _ _ (hl3 _ _ hr)⟩
      · rename_i hh
        obtain ⟨S1, hl2, he⟩ := ih S S' cur (i + 1) h
        refine ⟨S1, ?_, he⟩
        simp only [sPlain, hh]
        simpa using hl2
    · cases h
theorem part_leads : ∀ (d : Nat) (ver : Int) (flex : Bool) (fs : List Fld) (S S' : Sch) (t : Tree) (cur : List CV), mF d ver flex fs S = some S' → TOk G32 t → Leads S cur (sPart d ver flex fs t) S' := by
  intro d
  induction d with
  | zero => intro ver flex fs S S' t cur h; cases h
  | succ d ih =>
    intro ver flex fs S S' t cur h ht
    simp only [mF] at h
    have hk := known0 h
    obtain ⟨S1, ⟨c1, hl⟩, he⟩ := plain_leads (fd := sField (sPart d ver flex) ver flex) (t := t) (fun f S S' cur i ho => one_leads (part := sPart d ver flex) (fun fs S S' t cur a b => ih ver flex fs S S' t cur a b) cur ho (ht.at (fun _ h => by simp at h) i)) fs S S' cur 0 h
    simp only [sPart]
    cases flex with
    | false =>
      simp only [Bool.false_eq_true, if_false, Option.some.injEq] at he
      subst he
      exact ⟨c1, hl⟩
    | true =>
      simp only [if_true] at he ⊢
      cases S1 with
      | tags o k =>
        simp only [Option.some.injEq] at he
        subst he
        have hU : G32 t.U := by cases ht with | mk N S nl L U _ _ hU _ => exact hU
        obtain ⟨l, hl1, hl2⟩ := tags_part (fs := fs) hU
        have e : sTags (sField (sPart d ver true) ver true) (sUsual (d + 1)) fs t = (sUnknown fs t.U).map fun u => sWtag (u.2.take 32767) u.1 := by
          simp [sTags, hk]
        rw [e, hl2]
        refine ⟨setAt c1 o [.tags l], fun b out hr => ?_⟩
        rw [List.append_assoc]
        refine hl _ _ ⟨l, b, hl1, by simp, hr⟩
      | nil => cases he
      | prim p o k => cases he
      | arr c nul wl o dd body k => cases he
/-- What the reference writes is read, and written back byte by byte. -/
theorem again_law {d : Nat} {ver : Int} {flex : Bool} {fs : List Fld} {S : Sch} {t : Tree} {dd : List CV} (hS : SOk S 0 dd.length = true) (hm : isNilS (mF d ver flex fs S) = true) (ht : TOk G32 t) :
    ∃ out, RW S dd (sPart d ver flex fs t) out ∧ runR (rOf S) dd ⟨some (sPart d ver flex fs t), false⟩ = some (out, ⟨some [], false⟩) ∧ runW (wOf S) out = sPart d ver flex fs t := by
  cases h : mF d ver flex fs S with
  | none => rw [h] at hm; cases hm
  | some S' =>
    rw [h] at hm
    cases S' with
    | nil =>
      obtain ⟨out, hl⟩ := part_leads d ver flex fs S .nil t dd h ht
      have hr := hl [] out ⟨rfl, rfl⟩
      rw [List.append_nil] at hr
      refine ⟨out, hr, ?_, (runW_of S 0 dd.length dd _ out hS rfl hr).2.2⟩
      have := rd_of_wr S 0 dd.length dd _ out [] hS hr
      simpa using this
    | _ => cases hm
end Go.Proofs.Eng
/-! Plans that are the same: tests by computing. -/
namespace Go.Proofs.Eng
open Go

def wpEq : WP → WP → Bool
  | .nil, .nil => true
  | .lit b k, .lit b' k' => (b == b') && wpEq k k'
  | .prim p o k, .prim p' o' k' => decide (p = p') && Nat.beq o o' && wpEq k k'
  | .alen p o k, .alen p' o' k' => decide (p = p') && Nat.beq o o' && wpEq k k'
  | .loop o e b k, .loop o' e' b' k' => Nat.beq o o' && Nat.beq e e' && wpEq b b' && wpEq k k'
  | .tagn o k, .tagn o' k' => Nat.beq o o' && wpEq k k'
  | .tage o k, .tage o' k' => Nat.beq o o' && wpEq k k'
  | _, _ => false
theorem wpEq_ok : ∀ {a b : WP}, wpEq a b = true → a = b := by
  intro a
  induction a with
  | nil => intro b h; cases b <;> simp_all [wpEq]
  | lit x k ih => intro b h; cases b <;> simp_all [wpEq]; exact ih h.2
  | prim p o k ih => intro b h; cases b <;> simp_all [wpEq, Nat.beq_eq]; exact ih h.2
  | alen p o k ih => intro b h; cases b <;> simp_all [wpEq, Nat.beq_eq]; exact ih h.2
  | loop o e x k ihx ihk => intro b h; cases b <;> simp_all [wpEq, Nat.beq_eq]; exact ⟨ihx h.1.2, ihk h.2⟩
  | tagn o k ih => intro b h; cases b <;> simp_all [wpEq, Nat.beq_eq]; exact ih h.2
  | tage o k ih => intro b h; cases b <;> simp_all [wpEq, Nat.beq_eq]; exact ih h.2
/-- Cells that say nothing much: those of a fresh struct. -/
def cvEq0 : CV → CV → Bool
  | .int k n, .int k' n' => ikeq k k' && decide (n = n')
  | .bool b, .bool b' => b == b'
  | .flt b, .flt b' => Nat.beq b b'
  | .str s, .str s' => s == s'
  | .pstr none, .pstr none => true
  | .bytes none, .bytes none => true
  | .tags [], .tags [] => true
  | .arr a n [], .arr a' n' [] => a == a' && Nat.beq n n'
  | _, _ => false
theorem cvEq0_ok {a b : CV} (h : cvEq0 a b = true) : a = b := by
  unfold cvEq0 at h
  split at h
  · simp only [Bool.and_eq_true, decide_eq_true_eq] at h
    rw [ikeq_eq h.1, h.2]
  · simpa using h
  · simpa [Nat.beq_eq] using h
  · simpa using h
  · rfl
  · rfl
  · rfl
  · simp only [Bool.and_eq_true, beq_iff_eq, Nat.beq_eq] at h
    rw [h.1, h.2]
  · cases h
def cvsEq0 : List CV → List CV → Bool
  | [], [] => true
  | a :: r, b :: s => cvEq0 a b && cvsEq0 r s
  | _, _ => false
theorem cvsEq0_ok : ∀ {a b : List CV}, cvsEq0 a b = true → a = b := by
  intro a
  induction a with
  | nil => intro b h; cases b <;> simp_all [cvsEq0]
  | cons x r ih =>
    intro b h
    cases b with
    | nil => simp [cvsEq0] at h
    | cons y s =>
      simp only [cvsEq0, Bool.and_eq_true] at h
      rw [cvEq0_ok h.1, ih h.2]
def rpEq : RP → RP → Bool
  | .nil, .nil => true
  | .prim p o k, .prim p' o' k' => decide (p = p') && Nat.beq o o' && rpEq k k'
  | .arr c n o d b k, .arr c' n' o' d' b' k' => (c == c') && Nat.beq n n' && Nat.beq o o' && cvsEq0 d d' && rpEq b b' && rpEq k k'
  | .tags o k, .tags o' k' => Nat.beq o o' && rpEq k k'
  | _, _ => false
theorem rpEq_ok : ∀ {a b : RP}, rpEq a b = true → a = b := by
  intro a
  induction a with
  | nil => intro b h; cases b <;> simp_all [rpEq]
  | prim p o k ih => intro b h; cases b <;> simp_all [rpEq, Nat.beq_eq]; exact ih h.2
  | arr c n o d x k ihx ihk =>
    intro b h
    cases b <;> simp_all [rpEq, Nat.beq_eq]
    exact ⟨cvsEq0_ok h.1.1.2, ihx h.1.2, ihk h.2⟩
  | tags o k ih => intro b h; cases b <;> simp_all [rpEq, Nat.beq_eq]; exact ih h.2
end Go.Proofs.Eng
/-! What is written of what was read is no longer than so many times what was read. -/
namespace Go.Proofs.Eng
open Go

theorem wb_span {l : Int} {t : RS} (h : (rSpan l t).2.bad = false) : (orNil (rSpan l t).1).length + (rSpan l t).2.rest.length ≤ t.rest.length := by
  unfold rSpan at h ⊢
  split
  · rename_i hc
    rw [if_pos hc] at h
    cases h
  · split
    · simp [orNil]
    · rename_i b hb
      simp [orNil, RS.rest, hb]
      omega
theorem wb_rStr (x : Int × RS) (h : (rStr x).2.bad = false) : ∃ t : List UInt8, (rStr x).1 = [.str t] ∧ t.length + (rStr x).2.rest.length ≤ x.2.rest.length := ⟨_, rfl, wb_span h⟩
theorem wb_rNstr (x : Int × RS) (h : (rNstr x).2.bad = false) : ∃ o : Option (List UInt8), (rNstr x).1 = [.pstr o] ∧ (orNil o).length + (rNstr x).2.rest.length ≤ x.2.rest.length := by
  unfold rNstr at h ⊢
  split
  · exact ⟨none, rfl, by simp [orNil]⟩
  · rename_i hc
    rw [if_neg hc] at h
    exact ⟨_, rfl, wb_span h⟩
theorem wb_rByt (x : Int × RS) (h : (rByt x).2.bad = false) : ∃ o : Option (List UInt8), (rByt x).1 = [.bytes o] ∧ (orNil o).length + (rByt x).2.rest.length ≤ x.2.rest.length := by
  unfold rByt at h ⊢
  split
  · exact ⟨some [], rfl, by simp [orNil]⟩
  · rename_i hc
    rw [if_neg hc] at h
    exact ⟨_, rfl, wb_span h⟩
theorem wb_rNbyt (x : Int × RS) (h : (rNbyt x).2.bad = false) : ∃ o : Option (List UInt8), (rNbyt x).1 = [.bytes o] ∧ (orNil o).length + (rNbyt x).2.rest.length ≤ x.2.rest.length := by
  unfold rNbyt at h ⊢
  split
  · exact ⟨none, rfl, by simp [orNil]⟩
  · rename_i hc
    rw [if_neg hc] at h
    exact ⟨_, rfl, wb_span h⟩
theorem cbytes_le (s : List UInt8) : (cbytes s).length ≤ 10 + s.length := by
  have := uv_length ((1 + s.length) % 4294967296)
  simp only [cbytes, List.length_append]
  omega
theorem be_le (k : Nat) (n : Int) (s : List UInt8) : (be k n ++ s).length = k + s.length := by simp [be_length]
theorem wb_num {k : IntKind} {b : Nat} (hk : KB k b) (hb : 0 < b) {s : RS} (h : (rI k b s).2.bad = false) : (rI k b s).2.rest.length < s.rest.length := by
  obtain ⟨r, h1, h2⟩ := (num_good hk hb [] h).2.1
  rw [h1]
  exact h2
theorem wb_cl {s : RS} (h : (rCl s).2.bad = false) : (rCl s).2.rest.length < s.rest.length := by
  obtain ⟨r, h1, h2⟩ := (cl_good [] h).2.1
  rw [h1]
  exact h2
theorem wb_prim (p : WPrim) (s : RS) (h : (rprim p s).2.bad = false) : (wprim p (rprim p s).1).length + 32 * (rprim p s).2.rest.length ≤ 32 * s.rest.length := by
  obtain ⟨hok, hgood⟩ := wr_prim p s [] h
  obtain ⟨r, hr, hlt⟩ := hgood.rest
  have hrl : (rprim p s).2.rest.length = r.length := by rw [hr]; rfl
  cases p with
  | bool => obtain ⟨b, e⟩ := hok; rw [e]; simp only [wprim, List.length_singleton]; omega
  | i8 => obtain ⟨b, _, e⟩ := hok; rw [e]; simp only [wprim, be_length]; omega
  | i16 => obtain ⟨b, _, e⟩ := hok; rw [e]; simp only [wprim, be_length]; omega
  | u16 => obtain ⟨b, _, e⟩ := hok; rw [e]; simp only [wprim, be_length]; omega
  | i32 => obtain ⟨b, _, e⟩ := hok; rw [e]; simp only [wprim, be_length]; omega
  | i64 => obtain ⟨b, _, e⟩ := hok; rw [e]; simp only [wprim, be_length]; omega
  | f64 => obtain ⟨b, _, e⟩ := hok; rw [e]; simp only [wprim, be_length]; omega
  | uuid =>
    obtain ⟨l, hl, e⟩ := hok
    rw [e]
    have : wprim .uuid (l.map fun x => CV.int .u8 x.toNat) = l := by
      show uuidOf (List.take 16 _) = l
      rw [List.take_of_length_le (by simp [hl]), uuidOf_map]
    rw [this]
    omega
  | str =>
    have h1 := wb_num kb_i16 (by decide) (rStr_bad _ _ h)
    obtain ⟨t, e, h2⟩ := wb_rStr (rI .i16 2 s) h
    show (wprim .str (rStr (rI .i16 2 s)).1).length + 32 * (rStr (rI .i16 2 s)).2.rest.length ≤ _
    rw [e]
    show (be 2 (t.length : Int) ++ t).length + _ ≤ _
    rw [be_le]
    omega
  | cstr =>
    have h1 := wb_cl (rStr_bad _ _ h)
    obtain ⟨t, e, h2⟩ := wb_rStr (rCl s) h
    show (wprim .cstr (rStr (rCl s)).1).length + 32 * (rStr (rCl s)).2.rest.length ≤ _
    rw [e]
    have := cbytes_le t
    show (cbytes t).length + _ ≤ _
    omega
  | nstr =>
    have h1 := wb_num kb_i16 (by decide) (rNstr_bad _ _ h)
    obtain ⟨o, e, h2⟩ := wb_rNstr (rI .i16 2 s) h
    show (wprim .nstr (rNstr (rI .i16 2 s)).1).length + 32 * (rNstr (rI .i16 2 s)).2.rest.length ≤ _
    rw [e]
    cases o with
    | none => show (be 2 (-1)).length + _ ≤ _; rw [be_length]; omega
    | some t =>
      show (be 2 (t.length : Int) ++ t).length + _ ≤ _
      rw [be_le]
      simp only [orNil] at h2
      omega
  | cnstr =>
    have h1 := wb_cl (rNstr_bad _ _ h)
    obtain ⟨o, e, h2⟩ := wb_rNstr (rCl s) h
    show (wprim .cnstr (rNstr (rCl s)).1).length + 32 * (rNstr (rCl s)).2.rest.length ≤ _
    rw [e]
    cases o with
    | none => have := uv_length 0; show (uv 0).length + _ ≤ _; omega
    | some t =>
      have := cbytes_le t
      show (cbytes t).length + _ ≤ _
      simp only [orNil] at h2
      omega
  | byt =>
    have h1 := wb_num kb_i32 (by decide) (rByt_bad _ _ h)
    obtain ⟨o, e, h2⟩ := wb_rByt (rI .i32 4 s) h
    show (wprim .byt (rByt (rI .i32 4 s)).1).length + 32 * (rByt (rI .i32 4 s)).2.rest.length ≤ _
    rw [e]
    cases o with
    | none => show (be 4 0).length + _ ≤ _; rw [be_length]; omega
    | some t =>
      show (be 4 (t.length : Int) ++ t).length + _ ≤ _
      rw [be_le]
      simp only [orNil] at h2
      omega
  | cbyt =>
    have h1 := wb_cl (rByt_bad _ _ h)
    obtain ⟨o, e, h2⟩ := wb_rByt (rCl s) h
    show (wprim .cbyt (rByt (rCl s)).1).length + 32 * (rByt (rCl s)).2.rest.length ≤ _
    rw [e]
    cases o with
    | none => have := cbytes_le []; show (cbytes []).length + _ ≤ _; simp only [List.length_nil] at this; omega
    | some t =>
      have := cbytes_le t
      show (cbytes t).length + _ ≤ _
      simp only [orNil] at h2
      omega
  | nbyt =>
    have h1 := wb_num kb_i32 (by decide) (rNbyt_bad _ _ h)
    obtain ⟨o, e, h2⟩ := wb_rNbyt (rI .i32 4 s) h
    show (wprim .nbyt (rNbyt (rI .i32 4 s)).1).length + 32 * (rNbyt (rI .i32 4 s)).2.rest.length ≤ _
    rw [e]
    cases o with
    | none => show (be 4 (-1)).length + _ ≤ _; rw [be_length]; omega
    | some t =>
      show (be 4 (t.length : Int) ++ t).length + _ ≤ _
      rw [be_le]
      simp only [orNil] at h2
      omega
  | cnbyt =>
    have h1 := wb_cl (rNbyt_bad _ _ h)
    obtain ⟨o, e, h2⟩ := wb_rNbyt (rCl s) h
    show (wprim .cnbyt (rNbyt (rCl s)).1).length + 32 * (rNbyt (rCl s)).2.rest.length ≤ _
    rw [e]
    cases o with
    | none => have := uv_length 0; show (uv 0).length + _ ≤ _; omega
    | some t =>
      have := cbytes_le t
      show (cbytes t).length + _ ≤ _
      simp only [orNil] at h2
      omega
theorem wtag_le (k : Nat) (v : List UInt8) : (wtag (k, v)).length ≤ 20 + v.length := by
  have h1 := uv_length k
  have h2 := uv_length (v.length % 4294967296)
  simp only [wtag, List.length_append]
  omega
theorem tagSet_le (k : Nat) (v : List UInt8) : ∀ (l : List (Nat × List UInt8)), ((tagSet k v l).flatMap wtag).length ≤ (l.flatMap wtag).length + (20 + v.length) := by
  intro l
  have hw := wtag_le k v
  induction l with
  | nil => simp [tagSet]; omega
  | cons u r ih =>
    simp only [tagSet]
    split
    · simp only [List.flatMap_cons, List.length_append]; omega
    · split
      · simp only [List.flatMap_cons, List.length_append]; omega
      · simp only [List.flatMap_cons, List.length_append]; omega
theorem wb_tagsL : ∀ (n : Nat) (acc : List (Nat × List UInt8)) (s : RS), (rTagsL n acc s).2.bad = false → ((rTagsL n acc s).1.flatMap wtag).length + 32 * (rTagsL n acc s).2.rest.length ≤ (acc.flatMap wtag).length + 32 * s.rest.length := by
  intro n
  induction n with
  | zero => intro acc s _; exact Nat.le_refl _
  | succ n ih =>
    intro acc s h
    simp only [rTagsL] at h ⊢
    have h3 := rTagsL_bad _ _ _ h
    have h2 := span_bad h3
    obtain ⟨_, b1, r2, e2, c2⟩ := rUv_lt h2
    obtain ⟨_, b0, r1, e1, c1⟩ := rUv_lt b1
    have i1 := ih _ _ h
    have i2 := tagSet_le (rUv s).1 (orNil (rSpan ((rUv (rUv s).2).1 : Int) (rUv (rUv s).2).2).1) acc
    have i3 := wb_span h3
    have l2 : (rUv (rUv s).2).2.rest.length = r2.length := by rw [e2]; rfl
    have l1 : (rUv s).2.rest.length = r1.length := by rw [e1]; rfl
    omega
theorem wb_tags {s : RS} (h : (rTags s).2.bad = false) : (uv (rTags s).1.length ++ (rTags s).1.flatMap wtag).length + 32 * (rTags s).2.rest.length ≤ 32 * s.rest.length := by
  have h' : (rTagsL (rUv s).1 [] (rUv s).2).2.bad = false := h
  have h1 := rTagsL_bad _ _ _ h'
  obtain ⟨_, b0, r1, e1, c1⟩ := rUv_lt h1
  have l1 : (rUv s).2.rest.length = r1.length := by rw [e1]; rfl
  have i1 := wb_tagsL _ _ _ h'
  have i2 := uv_length (rTags s).1.length
  have e : rTags s = rTagsL (rUv s).1 [] (rUv s).2 := rfl
  rw [e] at i2
  rw [List.length_append, e]
  simp only [List.flatMap_nil, List.length_nil] at i1
  omega
theorem wlen_le (p : LPrim) (nl : Bool) (n : Nat) : (wlen p nl n).length ≤ 10 := by
  cases p <;> cases nl <;> simp only [wlen] <;> first | exact uv_length _ | (simp [be_length])
theorem wb_loop {f : List CV → RS → Option (List CV × RS)} {R : List UInt8 → List CV → Prop} {d : List CV} (hs : ∀ s e s', f d s = some (e, s') → s'.bad = false → s.bad = false)
    (hf : ∀ s e s', f d s = some (e, s') → s'.bad = false → s.rest.length < 2000000000 → ∃ b, R b e ∧ b.length + 32 * s'.rest.length ≤ 32 * s.rest.length) :
    ∀ (n : Nat) (s : RS) (es : List CV) (s' : RS), loopR f d n s = some (es, s') → s'.bad = false → s.rest.length < 2000000000 →
      ∃ b, RWs R n b es ∧ b.length + 32 * s'.rest.length ≤ 32 * s.rest.length := by
  intro n
  induction n with
  | zero => intro s es s' h hb hl; cases h; exact ⟨[], ⟨rfl, rfl⟩, by simp⟩
  | succ n ih =>
    intro s es s' h hb hl
    simp only [loopR] at h
    cases h1 : f d s with
    | none => rw [h1] at h; cases h
    | some x =>
      obtain ⟨e1, s1⟩ := x
      rw [h1] at h
      simp only at h
      cases h2 : loopR f d n s1 with
      | none => rw [h2] at h; cases h
      | some y =>
        obtain ⟨es2, s2⟩ := y
        rw [h2] at h
        cases h
        have hb1 := loop_bad hs n s1 es2 s' h2 hb
        obtain ⟨b1, j1, j2⟩ := hf s e1 s1 h1 hb1 hl
        obtain ⟨b2, i1, i2⟩ := ih s1 es2 s' h2 hb (by omega)
        exact ⟨b1 ++ b2, ⟨b1, e1, b2, es2, j1, rfl, rfl, i1⟩, by rw [List.length_append]; omega⟩
theorem wb_of_rd : ∀ (S : Sch) (lo len : Nat) (cur : List CV) (s : RS) (out : List CV) (s' : RS), SOk S lo len = true → runR (rOf S) cur s = some (out, s') → s'.bad = false → s.rest.length < 2000000000 →
    ∃ b, RW S cur b out ∧ b.length + 32 * s'.rest.length ≤ 32 * s.rest.length := by
  intro S
  induction S with
  | nil => intro lo len cur s out s' _ h hb _; cases h; exact ⟨[], ⟨rfl, rfl⟩, by simp⟩
  | prim p o k ih =>
    intro lo len cur s out s' hS h hb hl
    simp only [SOk, Bool.and_eq_true] at hS
    simp only [rOf, runR] at h
    have hb1 := runR_bad k _ _ _ _ h hb
    have hw := wb_prim p s hb1
    obtain ⟨b, i1, i2⟩ := ih _ _ _ _ _ _ hS.2 h hb (by omega)
    exact ⟨_, ⟨_, b, (wr_prim p s [] hb1).1, rfl, i1⟩, by rw [List.length_append]; omega⟩
  | tags o k ih =>
    intro lo len cur s out s' hS h hb hl
    simp only [SOk, Bool.and_eq_true] at hS
    simp only [rOf, runR] at h
    have hb1 := runR_bad k _ _ _ _ h hb
    have hw := wb_tags hb1
    obtain ⟨_, g2, g3, g4⟩ := rTags_good [] s hb1 hl
    obtain ⟨b, i1, i2⟩ := ih _ _ _ _ _ _ hS.2 h hb (by omega)
    refine ⟨_, ⟨_, b, g4, rfl, i1⟩, ?_⟩
    rw [← List.append_assoc, List.length_append]
    omega
  | arr c nul wl o d body k ihb ihk =>
    intro lo len cur s out s' hS h hb hl
    simp only [SOk, Bool.and_eq_true] at hS
    obtain ⟨⟨⟨⟨⟨h1, h2⟩, h3⟩, h4⟩, h5⟩, h6⟩ := hS
    simp only [rOf, runR] at h
    split at h
    · cases h
    · rename_i hbad
      have hbad : (rlen c s).2.bad = false := by simpa using hbad
      obtain ⟨_, ⟨r, g2, g3, g4⟩, g5⟩ := wr_len [] hbad
      have hr : (rlen c s).2.rest.length = r.length := by rw [g2]; rfl
      cases hlp : loopR (fun e t => runR (rOf body) e t) d (rlen c s).1.toNat (rlen c s).2 with
      | none => rw [hlp] at h; cases h
      | some x =>
        obtain ⟨es, t⟩ := x
        rw [hlp] at h
        simp only at h
        have hb1 := runR_bad k _ _ _ _ h hb
        obtain ⟨bs, j1, j2⟩ := wb_loop (R := fun b e => RW body d b e) (fun s e s' a b => runR_bad body d s e s' a b) (fun s e s' a b c => ihb _ _ _ _ _ _ h5 a b c) _ _ _ _ hlp hb1 (by omega)
        obtain ⟨b, i1, i2⟩ := ihk _ _ _ _ _ _ h6 h hb (by omega)
        have hw := wlen_le wl (isNil nul (rlen c s).1) (rlen c s).1.toNat
        refine ⟨_, ⟨_, (rlen c s).1.toNat, bs, es, b, nlOk_isNil nul (rlen c s).1, by omega, j1, rfl, i1⟩, ?_⟩
        simp only [List.length_append]
        omega
/-- How long what is written of what was read may be. -/
theorem written_le {S : Sch} {d : List CV} {s : RS} {out : List CV} {s' : RS} (hS : SOk S 0 d.length = true) (h : runR (rOf S) d s = some (out, s')) (hb : s'.bad = false) (hl : s.rest.length < 2000000000) : (runW (wOf S) out).length ≤ 32 * s.rest.length := by
  obtain ⟨b, h1, h2⟩ := wb_of_rd S 0 d.length d s out s' hS h hb hl
  rw [(runW_of S 0 d.length d b out hS rfl h1).2.2]
  omega
end Go.Proofs.Eng
/-! How long what the reference writes of a tree is at most. -/
namespace Go.Proofs.Eng
open Go

def usz : List (Nat × List UInt8) → Nat
  | [] => 0
  | u :: r => (1 + u.2.length) + usz r
/-- 'n' bounds what a tree holds. -/
inductive TB : Tree → Nat → Prop where
  | mk (N : Int) (S : List UInt8) (nl : Bool) (L : List Tree) (U : List (Nat × List UInt8)) (ns : List Nat) (n : Nat) (hl : L.length = ns.length)
      (h : ∀ (i : Nat) (t : Tree) (m : Nat), L[i]? = some t → ns[i]? = some m → TB t m) (hs : 1 + S.length + ns.sum + usz U ≤ n) : TB (.mk N S nl L U) n
theorem TB.pos {t : Tree} {n : Nat} (h : TB t n) : 1 ≤ n := by
  cases h with
  | mk N S nl L U ns n hl h hs => omega
theorem sum_get {ns : List Nat} {i m : Nat} (h : ns[i]? = some m) : m ≤ ns.sum := by
  induction ns generalizing i with
  | nil => simp at h
  | cons x r ih =>
    cases i with
    | zero => simp at h; simp; omega
    | succ i => have := ih (by simpa using h); simp only [List.sum_cons]; omega
theorem TB.at {t : Tree} {n : Nat} (h : TB t n) (i : Nat) : ∃ m, m ≤ n ∧ TB (sAt t i) m := by
  have hp := h.pos
  cases h with
  | mk N S nl L U ns n hl h hs =>
    simp only [sAt, Tree.L]
    split
    · rename_i x hx
      have hi : i < ns.length := by have := (List.getElem?_eq_some_iff.1 hx).1; omega
      have hm : ns[i]? = some ns[i] := List.getElem?_eq_getElem hi
      have := sum_get hm
      exact ⟨ns[i], by omega, h i x _ hx hm⟩
    · exact ⟨1, hp, .mk 0 [] false [] [] [] 1 rfl (fun i t m h => by simp at h) (by simp [usz])⟩
theorem flat_le {g : Tree → List UInt8} {C : Nat} : ∀ (L : List Tree) (ns : List Nat), L.length = ns.length → (∀ (i : Nat) (t : Tree) (m : Nat), L[i]? = some t → ns[i]? = some m → (g t).length ≤ C * m) → (L.flatMap g).length ≤ C * ns.sum := by
  intro L
  induction L with
  | nil => intro ns _ _; simp
  | cons t r ih =>
    intro ns hl h
    cases ns with
    | nil => simp at hl
    | cons m ms =>
      have h1 := h 0 t m rfl rfl
      have h2 := ih ms (by simpa using hl) (fun i t m a b => h (i + 1) t m (by simpa using a) (by simpa using b))
      rw [List.flatMap_cons, List.length_append, List.sum_cons, Nat.mul_add]
      omega
theorem sum_take (ns : List Nat) (k : Nat) : (ns.take k).sum ≤ ns.sum := by
  induction ns generalizing k with
  | nil => simp
  | cons x r ih =>
    cases k with
    | zero => simp
    | succ k => have := ih k; simp only [List.take_succ_cons, List.sum_cons]; omega
/-- What a field may weigh. -/
def wF (W : List Fld → Nat) (f : Fld) : Nat := if f.kind = 11 then 26 + W f.sub else if f.kind = 10 then 2 + W f.sub else 17
def wAll (W : List Fld → Nat) : List Fld → Nat
  | [] => 0
  | f :: r => wF W f + wAll W r
def wB : Nat → List Fld → Nat
  | 0, _ => 0
  | d + 1, fs => 31 + wAll (wB d) fs
/-- No field has a tag. -/
def tgl : Nat → List Fld → Bool
  | 0, _ => true
  | d + 1, fs => fs.all fun f => decide (f.tag < 0) && tgl d f.sub
theorem counted_le (flex null : Bool) (n size : Nat) (hs : size ≤ 10) : (sCounted flex null n size).length ≤ 10 := by
  have := uv_length (n + 1)
  unfold sCounted
  split
  · simp
  · split
    · exact this
    · split <;> rw [be_length] <;> exact hs
theorem text_le (flex null : Bool) (size : Nat) (s : List UInt8) (hs : size ≤ 10) : (sText flex null size s).length ≤ 10 + s.length := by
  unfold sText
  have h1 := counted_le flex null (if null then [] else s.take 32767).length size hs
  have h2 : (if null then [] else s.take 32767).length ≤ s.length := by
    split
    · simp
    · rw [List.length_take]; omega
  rw [List.length_append]
  omega
theorem uuid_len (s : List UInt8) : (sUuid s).length = 16 := by
  unfold sUuid
  simp
  omega
theorem value_le {part : List Fld → Tree → List UInt8} {sub : List Fld} {W : Nat} {t : Tree} {n : Nat} (h : TB t n) (hp : (part sub t).length ≤ W * n) (kind : Int) (null flex : Bool) : (sValue part kind sub null flex t).length ≤ (16 + W) * n := by
  have h1 := h.pos
  have hS : t.S.length + 1 ≤ n := by
    cases h with
    | mk N S nl L U ns n hl h hs => simp only [Tree.S]; omega
  have h16 : 16 ≤ 16 * n := by omega
  have e : (16 + W) * n = 16 * n + W * n := Nat.add_mul ..
  rw [e]
  unfold sValue
  split
  · simp; omega
  · split
    · rw [uuid_len]; omega
    · split
      · have := text_le flex null 2 t.S (by omega); omega
      · split
        · have := text_le flex null 4 t.S (by omega); omega
        · split
          · omega
          · rw [be_length]
            have : sWidth kind ≤ 8 := by unfold sWidth; (repeat' split) <;> omega
            omega
theorem field_le {part : List Fld → Tree → List UInt8} {W : List Fld → Nat} {ver : Int} {flex : Bool} {f : Fld} (hp : ∀ t n, TB t n → (part f.sub t).length ≤ W f.sub * n) {t : Tree} {n : Nat} (h : TB t n) :
    (sField part ver flex f t).length ≤ wF W f * n := by
  have h1 := h.pos
  unfold sField wF
  simp only
  generalize sNull f ver t = null
  by_cases h11 : f.kind = 11
  · rw [if_pos h11, if_pos h11, List.length_append]
    have h2 := counted_le flex null (if null then [] else t.L.take 32767).length 4 (by omega)
    have h3 : ((if null then [] else t.L.take 32767).flatMap (sValue part f.of f.sub false flex)).length ≤ (16 + W f.sub) * n := by
      cases h with
      | mk N S nl L U ns n hl h hs =>
        simp only [Tree.L]
        split
        · simp
        · refine Nat.le_trans (flat_le (C := 16 + W f.sub) (L.take 32767) (ns.take 32767) (by simp [hl]) ?_) (Nat.mul_le_mul_left _ (Nat.le_trans (sum_take ns 32767) (by omega)))
          intro i t m a b
          rw [List.getElem?_take] at a b
          split at a
          · rename_i hi
            rw [if_pos hi] at b
            have ht := h i t m a b
            exact value_le ht (hp t m ht) _ _ _
          · cases a
    have e : (26 + W f.sub) * n = 10 * n + (16 + W f.sub) * n := by rw [← Nat.add_mul]; congr 1; omega
    rw [e]
    omega
  · rw [if_neg h11, if_neg h11]
    by_cases h10 : f.kind = 10
    · rw [if_pos h10]
      have h2 := hp t n h
      have e : (2 + W f.sub) * n = 2 * n + W f.sub * n := Nat.add_mul ..
      rw [e]
      split
      · split
        · rw [be_length]; omega
        · rw [List.length_append, be_length]; omega
      · rw [show sValue part f.kind f.sub null flex t = part f.sub t by simp [sValue, h10]]
        omega
    · rw [if_neg h10]
      rw [if_neg (by simp [h10])]
      have e : sValue part f.kind f.sub null flex t = sValue (fun _ _ => []) f.kind f.sub null flex t := by
        unfold sValue
        simp [h10]
      rw [e]
      have := value_le (part := fun _ _ => []) (sub := f.sub) (W := 1) h (by simp) f.kind null flex
      omega
theorem plain_le {fd : Fld → Tree → List UInt8} {W : List Fld → Nat} {ver : Int} {t : Tree} {n : Nat} : ∀ (fs : List Fld) (i : Nat), (∀ f ∈ fs, ∀ i, (fd f (sAt t i)).length ≤ wF W f * n) → (sPlain fd ver t fs i).length ≤ wAll W fs * n := by
  intro fs
  induction fs with
  | nil => intro i _; simp [sPlain]
  | cons f r ih =>
    intro i h
    have h1 := h f (by simp) i
    have h2 := ih (i + 1) (fun g hg => h g (by simp [hg]))
    have e : wAll W (f :: r) * n = wF W f * n + wAll W r * n := by rw [wAll, Nat.add_mul]
    rw [e]
    simp only [sPlain, List.length_append]
    split
    · omega
    · simp only [List.length_nil]; omega
theorem usz_ins (t : Nat × List UInt8) : ∀ (l : List (Nat × List UInt8)), usz (sIns t l) ≤ 1 + t.2.length + usz l := by
  intro l
  induction l with
  | nil => simp [sIns, usz]
  | cons x r ih =>
    simp only [sIns]
    split
    · simp only [usz]; omega
    · split <;> simp only [usz] <;> omega
theorem usz_take (l : List (Nat × List UInt8)) (k : Nat) : usz (l.take k) ≤ usz l := by
  induction l generalizing k with
  | nil => simp
  | cons x r ih =>
    cases k with
    | zero => simp [usz]
    | succ k => have := ih k; simp only [List.take_succ_cons, usz]; omega
theorem usz_unknown (fs : List Fld) (U : List (Nat × List UInt8)) : usz (sUnknown fs U) ≤ usz U := by
  have key : ∀ (l acc : List (Nat × List UInt8)), usz (l.foldl (fun out t => if t.1 < sKnown fs then out else sIns t out) acc) ≤ usz acc + usz l := by
    intro l
    induction l with
    | nil => intro acc; simp [usz]
    | cons x r ih =>
      intro acc
      simp only [List.foldl_cons]
      have h1 := ih (if x.1 < sKnown fs then acc else sIns x acc)
      have h2 : usz (if x.1 < sKnown fs then acc else sIns x acc) ≤ 1 + x.2.length + usz acc := by
        split
        · omega
        · exact usz_ins x acc
      simp only [usz]
      omega
  have h1 := key (U.take 32767) []
  have h2 := usz_take U 32767
  unfold sUnknown
  simp only [usz] at h1
  omega
theorem wtags_le : ∀ (l : List (Nat × List UInt8)), ((l.map fun u => sWtag (u.2.take 32767) u.1).flatten).length ≤ 21 * usz l := by
  intro l
  induction l with
  | nil => simp
  | cons x r ih =>
    have h1 := uv_length x.1
    have h2 := uv_length (x.2.take 32767).length
    have h3 : (x.2.take 32767).length ≤ x.2.length := by rw [List.length_take]; omega
    have h4 : (sWtag (x.2.take 32767) x.1).length = (uv x.1).length + ((uv (x.2.take 32767).length).length + (x.2.take 32767).length) := by simp only [sWtag, List.length_append]
    simp only [List.map_cons, List.flatten_cons, List.length_append, usz]
    omega
theorem known_none {fs : List Fld} (h : ∀ f ∈ fs, f.tag < 0) : sKnown fs = 0 := by
  induction fs with
  | nil => rfl
  | cons f r ih =>
    have := h f (by simp)
    simp only [sKnown]
    rw [if_neg (by omega)]
    exact ih (fun g hg => h g (by simp [hg]))
/-- What is written is no longer than what a tree holds, so many times. -/
theorem part_le : ∀ (d : Nat) (ver : Int) (flex : Bool) (fs : List Fld) (t : Tree) (n : Nat), tgl d fs = true → TB t n → (sPart d ver flex fs t).length ≤ wB d fs * n := by
  intro d
  induction d with
  | zero => intro ver flex fs t n _ _; simp [sPart]
  | succ d ih =>
    intro ver flex fs t n hg h
    have hp := h.pos
    simp only [tgl, List.all_eq_true, Bool.and_eq_true, decide_eq_true_eq] at hg
    have h1 : (sPlain (sField (sPart d ver flex) ver flex) ver t fs 0).length ≤ wAll (wB d) fs * n := by
      refine plain_le fs 0 (fun f hf i => ?_)
      obtain ⟨m, hm, ht⟩ := h.at i
      exact Nat.le_trans (field_le (W := wB d) (fun t n ht => ih ver flex f.sub t n (hg f hf).2 ht) ht) (Nat.mul_le_mul_left _ hm)
    have e : wB (d + 1) fs * n = 31 * n + wAll (wB d) fs * n := by rw [wB, Nat.add_mul]
    rw [e]
    simp only [sPart]
    split
    · have hk := known_none (fun f hf => (hg f hf).1)
      have hU : usz t.U ≤ n := by
        cases h with
        | mk N S nl L U ns n hl h hs => simp only [Tree.U]; omega
      have h2 := usz_unknown fs t.U
      have h3 := wtags_le (sUnknown fs t.U)
      have et : sTags (sField (sPart d ver flex) ver flex) (sUsual (d + 1)) fs t = (sUnknown fs t.U).map fun u => sWtag (u.2.take 32767) u.1 := by
        simp [sTags, hk]
      rw [et]
      have h4 := uv_length ((sUnknown fs t.U).map fun u => sWtag (u.2.take 32767) u.1).length
      simp only [List.length_append]
      omega
    · omega
end Go.Proofs.Eng
