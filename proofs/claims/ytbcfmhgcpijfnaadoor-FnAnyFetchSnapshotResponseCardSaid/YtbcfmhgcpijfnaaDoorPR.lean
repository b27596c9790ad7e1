/-
  Several texts in one: RSem, RTheory, RPrim, RSch, RSch2, RSch3, REq, RSch4.
-/
import Derived.Test.YtbcfmhgcpijfnaaDoorPA
set_option linter.unusedVariables false
set_option linter.unusedSimpArgs false
/-! The rules of reading as plain functions over lists. -/
namespace Go.Proofs.Eng
open Go

/-- A reader: what is left (none: nil), and whether it ran out. -/
structure RS where
  src : Option (List UInt8)
  bad : Bool
def RS.rest (s : RS) : List UInt8 := match s.src with
  | some l => l
  | none => []
def RS.fail : RS := ⟨none, true⟩
def beNat (l : List UInt8) : Nat := l.foldl (fun a b => a * 256 + b.toNat) 0
def rNat (k : Nat) (s : RS) : Nat × RS := if s.rest.length < k then (0, .fail) else (beNat (s.rest.take k), ⟨some (s.rest.drop k), s.bad⟩)
def rSpan (l : Int) (s : RS) : Option (List UInt8) × RS :=
  if (s.rest.length : Int) < l ∨ l < 0 then (none, .fail) else match s.src with
  | none => (none, s)
  | some b => (some (b.take l.toNat), ⟨some (b.drop l.toNat), s.bad⟩)
def rUvL : Nat → Nat → Nat → List UInt8 → Option (Nat × List UInt8)
  | _, _, _, [] => none
  | 0, m, x, a :: r => if a.toNat ≤ 15 then some (x + a.toNat * m, r) else none
  | i + 1, m, x, a :: r => if a.toNat < 128 then some (x + a.toNat * m, r) else rUvL i (m * 128) (x + (a.toNat - 128) * m) r
def rUv (s : RS) : Nat × RS := match rUvL 4 1 0 s.rest with
  | some (x, r) => (x, ⟨some r, s.bad⟩)
  | none => (0, .fail)
def rI (k : IntKind) (n : Nat) (s : RS) : Int × RS := let (x, t) := rNat n s; (k.wrap x, t)
def orNil (b : Option (List UInt8)) : List UInt8 := match b with
  | some l => l
  | none => []
/-- A compact length. -/
def rCl (s : RS) : Int × RS := let (x, t) := rUv s; ((x : Int) - 1, t)
def rStr (l : Int × RS) : List CV × RS := let (b, t) := rSpan l.1 l.2; ([.str (orNil b)], t)
def rNstr (l : Int × RS) : List CV × RS := if l.1 < 0 then ([.pstr none], l.2) else let (b, t) := rSpan l.1 l.2; ([.pstr (some (orNil b))], t)
def rByt (l : Int × RS) : List CV × RS := if l.1 = -1 then ([.bytes (some [])], l.2) else let (b, t) := rSpan l.1 l.2; ([.bytes b], t)
def rNbyt (l : Int × RS) : List CV × RS := if l.1 < 0 then ([.bytes none], l.2) else let (b, t) := rSpan l.1 l.2; ([.bytes b], t)
def rprim : WPrim → RS → List CV × RS
  | .bool, s => let (x, t) := rNat 1 s; ([.bool (x != 0)], t)
  | .i8, s => let (x, t) := rI .i8 1 s; ([.int .i8 x], t)
  | .i16, s => let (x, t) := rI .i16 2 s; ([.int .i16 x], t)
  | .u16, s => let (x, t) := rI .u16 2 s; ([.int .u16 x], t)
  | .i32, s => let (x, t) := rI .i32 4 s; ([.int .i32 x], t)
  | .i64, s => let (x, t) := rI .i64 8 s; ([.int .i64 x], t)
  | .f64, s => let (x, t) := rNat 8 s; ([.flt x], t)
  | .uuid, s => let (b, t) := rSpan 16 s; ((match b with
    | some l => l.map fun x => .int .u8 x.toNat
    | none => List.replicate 16 (.int .u8 0)), t)
  | .str, s => rStr (rI .i16 2 s)
  | .cstr, s => rStr (rCl s)
  | .nstr, s => rNstr (rI .i16 2 s)
  | .cnstr, s => rNstr (rCl s)
  | .byt, s => rByt (rI .i32 4 s)
  | .cbyt, s => rByt (rCl s)
  | .nbyt, s => rNbyt (rI .i32 4 s)
  | .cnbyt, s => rNbyt (rCl s)
/-- The length of a list. -/
def rLenOk (r : Int) (s : RS) : Int × RS := if (s.rest.length : Int) < r then (0, .fail) else (r, s)
def rlen : Bool → RS → Int × RS
  | false, s => let (r, t) := rI .i32 4 s; rLenOk r t
  | true, s => let (r, t) := rUv s; rLenOk (IntKind.i32.wrap (IntKind.i32.wrap r - 1)) t
/-- A tag into those that are laid by rising numbers; what stood there is gone. -/
def tagSet (k : Nat) (v : List UInt8) : List (Nat × List UInt8) → List (Nat × List UInt8)
  | [] => [(k, v)]
  | t :: r => if k < t.1 then (k, v) :: t :: r else if k = t.1 then (k, v) :: r else t :: tagSet k v r
def rTagsL : Nat → List (Nat × List UInt8) → RS → List (Nat × List UInt8) × RS
  | 0, l, s => (l, s)
  | n + 1, l, s =>
    let (k, s1) := rUv s
    let (z, s2) := rUv s1
    let (b, s3) := rSpan z s2
    rTagsL n (tagSet k (orNil b) l) s3
def rTags (s : RS) : List (Nat × List UInt8) × RS := let (n, t) := rUv s; rTagsL n [] t

/-- A plan of reading. Of a list: whether its length is compact; when it is nil (0: where nothing is in it; 1: where its length is below zero; 2: never). -/
inductive RP where
  | nil
  | prim (p : WPrim) (off : Nat) (k : RP)
  | arr (c : Bool) (nul : Nat) (off : Nat) (dflt : List CV) (body : RP) (k : RP)
  | tags (off : Nat) (k : RP)
  | ktag (off w : Nat) (body : RP) (ot : Nat) (k : RP)

def setAt (cs : List CV) (o : Nat) (v : List CV) : List CV := cs.take o ++ (v ++ cs.drop (o + v.length))
def loopR (body : List CV → RS → Option (List CV × RS)) (d : List CV) : Nat → RS → Option (List CV × RS)
  | 0, s => some ([], s)
  | n + 1, s => match body d s with
    | none => none
    | some (e, s1) => match loopR body d n s1 with
      | none => none
      | some (es, s2) => some (e ++ es, s2)
def isNil (nul : Nat) (l : Int) : Bool := match nul with
  | 0 => decide (l ≤ 0)
  | 1 => decide (l < 0)
  | _ => false
/-- Tags, one of them known (number 0): what 'f' reads of its bytes goes into cells; the others are kept. -/
def kloop (f : List CV → RS → Option (List CV × RS)) : Nat → List CV → List (Nat × List UInt8) → RS → Option (List CV × List (Nat × List UInt8) × RS)
  | 0, v, l, s => some (v, l, s)
  | n + 1, v, l, s =>
    if (rUv s).1 = 0 then match f v ⟨(rSpan (rUv (rUv s).2).1 (rUv (rUv s).2).2).1, false⟩ with
      | none => none
      | some (v', t) => if t.bad then none else kloop f n v' l (rSpan (rUv (rUv s).2).1 (rUv (rUv s).2).2).2
    else kloop f n v (tagSet (rUv s).1 (orNil (rSpan (rUv (rUv s).2).1 (rUv (rUv s).2).2).1) l) (rSpan (rUv (rUv s).2).1 (rUv (rUv s).2).2).2
def runR : RP → List CV → RS → Option (List CV × RS)
  | .nil, cs, s => some (cs, s)
  | .prim p o k, cs, s => runR k (setAt cs o (rprim p s).1) (rprim p s).2
  | .tags o k, cs, s => runR k (setAt cs o [.tags (rTags s).1]) (rTags s).2
  | .ktag off w body ot k, cs, s => match kloop (fun c t => runR body c t) (rUv s).1 ((cs.drop off).take w) [] (rUv s).2 with
    | none => none
    | some (v, l, t) => runR k (setAt (setAt cs off v) ot [.tags l]) t
  | .arr c nul o d body k, cs, s =>
    if (rlen c s).2.bad then none else match loopR (fun e t => runR body e t) d (rlen c s).1.toNat (rlen c s).2 with
    | none => none
    | some (es, t) => runR k (setAt cs o [.arr (isNil nul (rlen c s).1) (rlen c s).1.toNat es]) t
end Go.Proofs.Eng
/-! What is written is read, what is read is written, and what ends too early is refused: plain laws. First: numbers, groups of seven bits, pieces. -/
namespace Go.Proofs.Eng
open Go

theorem beNat_snoc (l : List UInt8) (b : UInt8) : beNat (l ++ [b]) = beNat l * 256 + b.toNat := by simp [beNat]
theorem beNat_lt (l : List UInt8) : beNat l < 256 ^ l.length := by
  suffices h : ∀ (l : List UInt8) (a n : Nat), a < 256 ^ n → l.foldl (fun a b => a * 256 + b.toNat) a < 256 ^ (n + l.length) by
    simpa [beNat] using h l 0 0 (by simp)
  intro l
  induction l with
  | nil => intro a n h; simpa using h
  | cons x r ih =>
    intro a n h
    simp only [List.foldl_cons, List.length_cons]
    rw [show n + (r.length + 1) = (n + 1) + r.length from by omega]
    refine ih _ _ ?_
    have := x.toNat_lt
    rw [Nat.pow_succ]
    omega

/-- More bytes behind what is left. -/
def RS.more (s : RS) (q : List UInt8) : RS := ⟨some (s.rest ++ q), s.bad⟩
theorem rNat_ok {k : Nat} {s : RS} (h : (rNat k s).2.bad = false) : k ≤ s.rest.length ∧ s.bad = false ∧ rNat k s = (beNat (s.rest.take k), ⟨some (s.rest.drop k), false⟩) := by
  unfold rNat at h ⊢
  split at h
  · cases h
  · rename_i hl
    have hb : s.bad = false := h
    rw [if_neg hl, hb]
    exact ⟨by omega, rfl, rfl⟩
theorem rNat_more {k : Nat} {s : RS} (q : List UInt8) (h : (rNat k s).2.bad = false) : rNat k (s.more q) = ((rNat k s).1, (rNat k s).2.more q) := by
  obtain ⟨h1, h2, h3⟩ := rNat_ok h
  rw [h3]
  unfold rNat
  have hr : (s.more q).rest = s.rest ++ q := rfl
  rw [hr, if_neg (by simp; omega), List.take_append_of_le_length h1, List.drop_append_of_le_length h1]
  simp [RS.more, RS.rest, h2]
theorem rSpan_ok {l : Int} {s : RS} (h : (rSpan l s).2.bad = false) : 0 ≤ l ∧ l ≤ s.rest.length ∧ s.bad = false ∧ (s.src ≠ none → rSpan l s = (some (s.rest.take l.toNat), ⟨some (s.rest.drop l.toNat), false⟩)) := by
  unfold rSpan at h ⊢
  split at h
  · cases h
  · rename_i hl
    have hl' : 0 ≤ l ∧ l ≤ s.rest.length := by omega
    refine ⟨hl'.1, hl'.2, ?_, ?_⟩
    · revert h; cases hs : s.src <;> simp
    · intro hn
      rw [if_neg hl]
      revert h
      cases hs : s.src with
      | none => exact absurd hs hn
      | some b => simp [RS.rest, hs]
theorem rUvL_more : ∀ (i m x : Nat) (l : List UInt8) (n : Nat) (r q : List UInt8), rUvL i m x l = some (n, r) → rUvL i m x (l ++ q) = some (n, r ++ q) := by
  intro i
  induction i with
  | zero =>
    intro m x l n r q h
    cases l with
    | nil => simp [rUvL] at h
    | cons a l =>
      simp only [rUvL] at h
      simp only [List.cons_append, rUvL]
      split at h
      · rename_i ha; cases h; rw [if_pos ha]
      · cases h
  | succ i ih =>
    intro m x l n r q h
    cases l with
    | nil => simp [rUvL] at h
    | cons a l =>
      simp only [rUvL] at h
      simp only [List.cons_append, rUvL]
      split at h
      · rename_i ha; cases h; rw [if_pos ha]
      · rename_i ha; rw [if_neg ha]; exact ih _ _ _ _ _ q h
theorem rUv_ok {s : RS} (h : (rUv s).2.bad = false) : ∃ x r, rUvL 4 1 0 s.rest = some (x, r) ∧ s.bad = false ∧ rUv s = (x, ⟨some r, false⟩) := by
  unfold rUv at h ⊢
  split at h
  · rename_i x r hx
    have hb : s.bad = false := h
    exact ⟨x, r, hx, hb, by rw [hb]⟩
  · cases h
theorem rUv_more {s : RS} (q : List UInt8) (h : (rUv s).2.bad = false) : rUv (s.more q) = ((rUv s).1, (rUv s).2.more q) := by
  obtain ⟨x, r, h1, h2, h3⟩ := rUv_ok h
  rw [h3]
  unfold rUv
  have hr : (s.more q).rest = s.rest ++ q := rfl
  rw [hr, rUvL_more _ _ _ _ _ _ q h1]
  simp [RS.more, RS.rest, h2]
theorem byteOf (n : Nat) (h : n < 256) : (UInt8.ofNat n).toNat = n := by simp; omega
theorem uvF_read : ∀ (i f m x n : Nat) (e : List UInt8), i ≤ f → n < 128 ^ i * 16 → rUvL i m x (uvF f n ++ e) = some (x + n * m, e) := by
  intro i
  induction i with
  | zero =>
    intro f m x n e _ hn
    have hn : n < 16 := by simpa using hn
    have h1 : uvF f n = [UInt8.ofNat n] := by
      cases f with
      | zero => rfl
      | succ f => simp only [uvF]; rw [if_pos (by omega)]
    rw [h1]
    simp only [List.cons_append, List.nil_append, rUvL, byteOf n (by omega)]
    rw [if_pos (by omega)]
  | succ i ih =>
    intro f m x n e hf hn
    cases f with
    | zero => omega
    | succ f =>
      simp only [uvF]
      split
      · rename_i hs
        simp only [List.cons_append, List.nil_append, rUvL, byteOf n (by omega)]
        rw [if_pos hs]
      · rename_i hs
        simp only [List.cons_append, rUvL, byteOf (n % 128 + 128) (by omega)]
        rw [if_neg (by omega), ih f (m * 128) _ (n / 128) e (by omega) (by rw [Nat.pow_succ] at hn; omega)]
        congr 2
        have h2 := Nat.div_add_mod n 128
        have h3 : n * m = (128 * (n / 128) + n % 128) * m := by rw [h2]
        rw [h3, Nat.add_mul, show n % 128 + 128 - 128 = n % 128 from by omega]
        have h4 : n / 128 * (m * 128) = 128 * (n / 128) * m := by
          rw [Nat.mul_comm m 128, ← Nat.mul_assoc, Nat.mul_comm (n / 128) 128]
        omega
theorem uv_read (n : Nat) (h : n < 4294967296) (e : List UInt8) (s : RS) (hs : s.rest = uv n ++ e) (hb : s.bad = false) : rUv s = (n, ⟨some e, false⟩) := by
  unfold rUv
  rw [hs, show uv n = uvF 9 n from rfl, uvF_read 4 9 1 0 n e (by omega) (by omega), hb]
  simp
theorem beNat_be (k : Nat) (n : Int) : (beNat (be k n) : Int) = n % (256 : Int) ^ k := by
  suffices h : ∀ (k : Nat) (a : Nat), (((be k n).foldl (fun a b => a * 256 + b.toNat) a : Nat) : Int) = a * (256 : Int) ^ k + n % (256 : Int) ^ k by
    simpa [beNat] using h k 0
  intro k
  induction k with
  | zero => intro a; simp [be, Int.emod_one]
  | succ k ih =>
    intro a
    have hp : (0 : Int) < 256 ^ k := Int.pow_pos (by decide)
    simp only [be, List.foldl_cons]
    rw [ih]
    have h1 : 0 ≤ n / (256 : Int) ^ k % 256 := Int.emod_nonneg _ (by decide)
    have h2 : n / (256 : Int) ^ k % 256 < 256 := Int.emod_lt_of_pos _ (by decide)
    rw [byteOf _ (by omega)]
    have h3 : ((n / (256 : Int) ^ k % 256).toNat : Int) = n / (256 : Int) ^ k % 256 := Int.toNat_of_nonneg h1
    rw [Int.natCast_add, Int.natCast_mul, h3, Int.pow_succ, show ((256 : Nat) : Int) = 256 from rfl]
    have h4 := Int.mul_ediv_add_emod n ((256 : Int) ^ k)
    have h5 := Int.mul_ediv_add_emod (n / (256 : Int) ^ k) 256
    have h7 := Int.emod_nonneg n (show (256 : Int) ^ k ≠ 0 by omega)
    have h8 := Int.emod_lt_of_pos n hp
    generalize n % (256 : Int) ^ k = r at *
    generalize n / (256 : Int) ^ k = q at *
    generalize hr2 : q % 256 = r2 at *
    generalize q / 256 = q2 at *
    generalize (256 : Int) ^ k = p at *
    have h9 : p * r2 ≤ p * 255 := Int.mul_le_mul_of_nonneg_left (by omega) (by omega)
    have h10 : 0 ≤ p * r2 := Int.mul_nonneg (by omega) h1
    have h6 : n % (p * 256) = p * r2 + r := by
      have e : n = (p * r2 + r) + (p * 256) * q2 := by
        rw [← h4, ← h5, Int.mul_add, Int.mul_assoc]
        omega
      rw [e, Int.add_mul_emod_self_left, Int.emod_eq_of_lt (by omega) (by omega)]
    rw [h6, Int.add_mul, Int.mul_comm r2 p, Int.mul_comm p 256, ← Int.mul_assoc]
    omega
end Go.Proofs.Eng
/-! The primitives: what is written is read; what is read could have been written; more bytes behind it are left alone. -/
namespace Go.Proofs.Eng
open Go

def OkP : WPrim → List CV → Prop
  | .bool, v => ∃ b, v = [.bool b]
  | .i8, v => ∃ n, IntKind.i8.wrap n = n ∧ v = [.int .i8 n]
  | .i16, v => ∃ n, IntKind.i16.wrap n = n ∧ v = [.int .i16 n]
  | .u16, v => ∃ n, IntKind.u16.wrap n = n ∧ v = [.int .u16 n]
  | .i32, v => ∃ n, IntKind.i32.wrap n = n ∧ v = [.int .i32 n]
  | .i64, v => ∃ n, IntKind.i64.wrap n = n ∧ v = [.int .i64 n]
  | .f64, v => ∃ n, n < 18446744073709551616 ∧ v = [.flt n]
  | .uuid, v => ∃ l : List UInt8, l.length = 16 ∧ v = l.map fun x => .int .u8 x.toNat
  | .str, v => ∃ s : List UInt8, s.length < 32768 ∧ v = [.str s]
  | .cstr, v => ∃ s : List UInt8, s.length < 4294967295 ∧ v = [.str s]
  | .nstr, v => ∃ o : Option (List UInt8), (∀ s, o = some s → s.length < 32768) ∧ v = [.pstr o]
  | .cnstr, v => ∃ o : Option (List UInt8), (∀ s, o = some s → s.length < 4294967295) ∧ v = [.pstr o]
  | .byt, v => ∃ s : List UInt8, s.length < 2147483648 ∧ v = [.bytes (some s)]
  | .cbyt, v => ∃ s : List UInt8, s.length < 4294967295 ∧ v = [.bytes (some s)]
  | .nbyt, v => ∃ o : Option (List UInt8), (∀ s, o = some s → s.length < 2147483648) ∧ v = [.bytes o]
  | .cnbyt, v => ∃ o : Option (List UInt8), (∀ s, o = some s → s.length < 4294967295) ∧ v = [.bytes o]

/-- Kinds of numbers and their bytes. -/
def KB (k : IntKind) (b : Nat) : Prop := (∀ n : Int, k.wrap (n % (256 : Int) ^ b) = k.wrap n) ∧ ∀ n : Int, k.wrap (k.wrap n) = k.wrap n
theorem kb_i8 : KB .i8 1 := ⟨fun n => by simp [IntKind.wrap, IntKind.bits, IntKind.signed], fun n => by simp [IntKind.wrap, IntKind.bits, IntKind.signed]; (repeat' split) <;> omega⟩
theorem kb_i16 : KB .i16 2 := ⟨fun n => by simp [IntKind.wrap, IntKind.bits, IntKind.signed], fun n => by simp [IntKind.wrap, IntKind.bits, IntKind.signed]; (repeat' split) <;> omega⟩
theorem kb_u16 : KB .u16 2 := ⟨fun n => by simp [IntKind.wrap, IntKind.bits, IntKind.signed], fun n => by simp [IntKind.wrap, IntKind.bits, IntKind.signed]⟩
theorem kb_i32 : KB .i32 4 := ⟨fun n => by simp [IntKind.wrap, IntKind.bits, IntKind.signed], fun n => by simp [IntKind.wrap, IntKind.bits, IntKind.signed]; (repeat' split) <;> omega⟩
theorem kb_i64 : KB .i64 8 := ⟨fun n => by simp [IntKind.wrap, IntKind.bits, IntKind.signed], fun n => by simp [IntKind.wrap, IntKind.bits, IntKind.signed]; (repeat' split) <;> omega⟩

theorem rNat_read (b : Nat) (n : Int) (e : List UInt8) (s : RS) (hs : s.rest = be b n ++ e) (hb : s.bad = false) : rNat b s = (beNat (be b n), ⟨some e, false⟩) := by
  have hl := be_length b n
  unfold rNat
  rw [hs, if_neg (show ¬ (be b n ++ e).length < b by simp [hl]), hb]
  have h1 : (be b n ++ e).take b = be b n := by rw [List.take_append_of_le_length (by omega), List.take_of_length_le (by omega)]
  have h2 : (be b n ++ e).drop b = e := List.drop_left' hl
  rw [h1, h2]
theorem rI_read {k : IntKind} {b : Nat} (hk : KB k b) (n : Int) (hn : k.wrap n = n) (e : List UInt8) (s : RS) (hs : s.rest = be b n ++ e) (hb : s.bad = false) : rI k b s = (n, ⟨some e, false⟩) := by
  unfold rI
  rw [rNat_read b n e s hs hb]
  simp only [beNat_be, hk.1, hn]
theorem rI_ok {k : IntKind} {b : Nat} (hk : KB k b) {s : RS} (h : (rI k b s).2.bad = false) : b ≤ s.rest.length ∧ s.bad = false ∧ k.wrap (rI k b s).1 = (rI k b s).1 ∧ (rI k b s).2 = ⟨some (s.rest.drop b), false⟩ := by
  obtain ⟨h1, h2, h3⟩ := rNat_ok (show (rNat b s).2.bad = false from h)
  refine ⟨h1, h2, ?_, ?_⟩
  · exact hk.2 _
  · show (rNat b s).2 = _
    rw [h3]
theorem rI_more {k : IntKind} {b : Nat} {s : RS} (q : List UInt8) (h : (rI k b s).2.bad = false) : rI k b (s.more q) = ((rI k b s).1, (rI k b s).2.more q) := by
  unfold rI
  rw [rNat_more q (show (rNat b s).2.bad = false from h)]
theorem rCl_read (n : Nat) (hn : n < 4294967295) (e : List UInt8) (s : RS) (hs : s.rest = uv ((1 + n) % 4294967296) ++ e) (hb : s.bad = false) : rCl s = ((n : Int), ⟨some e, false⟩) := by
  unfold rCl
  rw [uv_read _ (by omega) e s hs hb]
  simp only [Prod.mk.injEq, and_true]
  omega
theorem rUvL_lt : ∀ (i m x : Nat) (l : List UInt8) (n : Nat) (r : List UInt8), rUvL i m x l = some (n, r) → x < m → n < m * 128 ^ i * 16 ∧ r.length < l.length := by
  intro i
  induction i with
  | zero =>
    intro m x l n r h hx
    cases l with
    | nil => simp [rUvL] at h
    | cons a l =>
      simp only [rUvL] at h
      split at h
      · rename_i ha
        cases h
        have h1 : a.toNat * m ≤ 15 * m := Nat.mul_le_mul_right _ ha
        exact ⟨by simp; omega, by simp⟩
      · cases h
  | succ i ih =>
    intro m x l n r h hx
    cases l with
    | nil => simp [rUvL] at h
    | cons a l =>
      simp only [rUvL] at h
      have h128 : m * 128 ≤ m * 128 ^ (i + 1) * 16 := by
        have : 0 < 128 ^ i := Nat.pow_pos (by decide)
        rw [Nat.pow_succ, Nat.mul_assoc]
        exact Nat.mul_le_mul_left _ (by omega)
      split at h
      · rename_i ha
        cases h
        have h1 : a.toNat * m ≤ 127 * m := Nat.mul_le_mul_right _ (by omega)
        exact ⟨by omega, by simp⟩
      · rename_i ha
        have ha2 := a.toNat_lt
        have h1 : (a.toNat - 128) * m ≤ 127 * m := Nat.mul_le_mul_right _ (by omega)
        obtain ⟨h2, h3⟩ := ih (m * 128) _ l n r h (by omega)
        refine ⟨?_, by simp; omega⟩
        rw [Nat.pow_succ]
        have e : m * 128 * 128 ^ i = m * (128 ^ i * 128) := by rw [Nat.mul_assoc, Nat.mul_comm 128 (128 ^ i)]
        rwa [e] at h2
theorem rUv_lt {s : RS} (h : (rUv s).2.bad = false) : (rUv s).1 < 4294967296 ∧ s.bad = false ∧ ∃ r, (rUv s).2 = ⟨some r, false⟩ ∧ r.length < s.rest.length := by
  obtain ⟨x, r, h1, h2, h3⟩ := rUv_ok h
  have h4 := rUvL_lt 4 1 0 _ _ _ h1 (by omega)
  rw [h3]
  exact ⟨by omega, h2, r, rfl, h4.2⟩
theorem rCl_ok {s : RS} (h : (rCl s).2.bad = false) : -1 ≤ (rCl s).1 ∧ (rCl s).1 < 4294967295 ∧ s.bad = false ∧ ∃ r, (rCl s).2 = ⟨some r, false⟩ ∧ r.length < s.rest.length := by
  obtain ⟨h1, h2, h3⟩ := rUv_lt (show (rUv s).2.bad = false from h)
  have e : (rCl s).1 = ((rUv s).1 : Int) - 1 := rfl
  exact ⟨by omega, by omega, h2, h3⟩
theorem rCl_more {s : RS} (q : List UInt8) (h : (rCl s).2.bad = false) : rCl (s.more q) = ((rCl s).1, (rCl s).2.more q) := by
  unfold rCl
  rw [rUv_more q (show (rUv s).2.bad = false from h)]

theorem rSpan_some (l : Int) (r : List UInt8) : rSpan l ⟨some r, false⟩ = if (r.length : Int) < l ∨ l < 0 then (none, .fail) else (some (r.take l.toNat), ⟨some (r.drop l.toNat), false⟩) := rfl
theorem rSpan_read (s e : List UInt8) : rSpan (s.length : Int) ⟨some (s ++ e), false⟩ = (some s, ⟨some e, false⟩) := by
  rw [rSpan_some, if_neg (by simp; omega)]
  simp
theorem rSpan_good {l : Int} {r : List UInt8} (h : (rSpan l ⟨some r, false⟩).2.bad = false) : 0 ≤ l ∧ l ≤ r.length ∧ rSpan l ⟨some r, false⟩ = (some (r.take l.toNat), ⟨some (r.drop l.toNat), false⟩) := by
  rw [rSpan_some] at h ⊢
  split at h
  · cases h
  · rename_i hl
    rw [if_neg hl]
    exact ⟨by omega, by omega, rfl⟩
theorem rSpan_longer {l : Int} {r : List UInt8} (q : List UInt8) (h0 : 0 ≤ l) (h1 : l ≤ r.length) : rSpan l ⟨some (r ++ q), false⟩ = (some (r.take l.toNat), ⟨some (r.drop l.toNat ++ q), false⟩) := by
  rw [rSpan_some, if_neg (by simp; omega), List.take_append_of_le_length (by omega), List.drop_append_of_le_length (by omega)]
end Go.Proofs.Eng
namespace Go.Proofs.Eng
open Go

theorem rStr_read (s e : List UInt8) : rStr ((s.length : Int), ⟨some (s ++ e), false⟩) = ([.str s], ⟨some e, false⟩) := by
  unfold rStr; rw [rSpan_read]; rfl
theorem rNstr_read (s e : List UInt8) : rNstr ((s.length : Int), ⟨some (s ++ e), false⟩) = ([.pstr (some s)], ⟨some e, false⟩) := by
  unfold rNstr; rw [if_neg (by simp), rSpan_read]; rfl
theorem rByt_read (s e : List UInt8) : rByt ((s.length : Int), ⟨some (s ++ e), false⟩) = ([.bytes (some s)], ⟨some e, false⟩) := by
  unfold rByt; rw [if_neg (show ¬ (s.length : Int) = -1 by omega), rSpan_read]
theorem rNbyt_read (s e : List UInt8) : rNbyt ((s.length : Int), ⟨some (s ++ e), false⟩) = ([.bytes (some s)], ⟨some e, false⟩) := by
  unfold rNbyt; rw [if_neg (by simp), rSpan_read]
theorem rest_some {s : RS} {a e : List UInt8} (h : s.rest = a ++ e) (ha : a ≠ []) (hb : s.bad = false) : s = ⟨some (a ++ e), false⟩ := by
  obtain ⟨src, bad⟩ := s
  cases src with
  | none => simp [RS.rest] at h; exact absurd h.1 ha
  | some l => simp only [RS.rest] at h; simp only at hb; rw [h, hb]
theorem uuidOf_map (l : List UInt8) : uuidOf (l.map fun x => .int .u8 x.toNat) = l := by
  induction l with
  | nil => rfl
  | cons x r ih =>
    simp only [List.map_cons, uuidOf, ih]
    have h := x.toNat_lt
    have : ((x.toNat : Int) % 256).toNat = x.toNat := by omega
    rw [this]
    simp
theorem rw_prim (p : WPrim) (v : List CV) (e : List UInt8) (s : RS) (h : OkP p v) (hs : s.rest = wprim p v ++ e) (hb : s.bad = false) : rprim p s = (v, ⟨some e, false⟩) := by
  cases p with
  | bool =>
    obtain ⟨b, rfl⟩ := h
    have hs : s.rest = [if b then 1 else 0] ++ e := hs
    have h1 := rest_some hs (by simp) hb
    subst h1
    cases b <;> rfl
  | i8 => obtain ⟨n, hn, rfl⟩ := h; show ([CV.int .i8 (rI .i8 1 s).1], (rI .i8 1 s).2) = _; rw [rI_read kb_i8 n hn e s hs hb]
  | i16 => obtain ⟨n, hn, rfl⟩ := h; show ([CV.int .i16 (rI .i16 2 s).1], (rI .i16 2 s).2) = _; rw [rI_read kb_i16 n hn e s hs hb]
  | u16 => obtain ⟨n, hn, rfl⟩ := h; show ([CV.int .u16 (rI .u16 2 s).1], (rI .u16 2 s).2) = _; rw [rI_read kb_u16 n hn e s hs hb]
  | i32 => obtain ⟨n, hn, rfl⟩ := h; show ([CV.int .i32 (rI .i32 4 s).1], (rI .i32 4 s).2) = _; rw [rI_read kb_i32 n hn e s hs hb]
  | i64 => obtain ⟨n, hn, rfl⟩ := h; show ([CV.int .i64 (rI .i64 8 s).1], (rI .i64 8 s).2) = _; rw [rI_read kb_i64 n hn e s hs hb]
  | f64 =>
    obtain ⟨n, hn, rfl⟩ := h
    show ([CV.flt (rNat 8 s).1], (rNat 8 s).2) = _
    rw [rNat_read 8 n e s hs hb]
    have h1 := beNat_be 8 n
    have h2 : beNat (be 8 n) = n := by
      have : (n : Int) % (256 : Int) ^ 8 = n := Int.emod_eq_of_lt (by omega) (by omega)
      omega
    rw [h2]
  | uuid =>
    obtain ⟨l, hl, rfl⟩ := h
    have e1 : wprim .uuid (l.map fun (x : UInt8) => CV.int .u8 x.toNat) = l := by
      show uuidOf ((l.map fun (x : UInt8) => CV.int .u8 x.toNat).take 16) = l
      rw [List.take_of_length_le (by simp [hl]), uuidOf_map]
    rw [e1] at hs
    have h1 := rest_some hs (by intro h; simp [h] at hl) hb
    subst h1
    have h2 := rSpan_read l e
    rw [hl] at h2
    show ((match (rSpan 16 ⟨some (l ++ e), false⟩).1 with
      | some l => l.map fun (x : UInt8) => CV.int .u8 x.toNat
      | none => List.replicate 16 (.int .u8 0)), (rSpan 16 ⟨some (l ++ e), false⟩).2) = _
    rw [show (16 : Int) = ((16 : Nat) : Int) from rfl, h2]
  | str =>
    obtain ⟨t, ht, rfl⟩ := h
    show rStr (rI .i16 2 s) = _
    rw [rI_read kb_i16 (t.length : Int) (by simp [IntKind.wrap, IntKind.bits, IntKind.signed]; omega) (t ++ e) s (by rw [hs]; exact List.append_assoc _ _ _) hb, rStr_read]
  | cstr =>
    obtain ⟨t, ht, rfl⟩ := h
    show rStr (rCl s) = _
    rw [rCl_read t.length ht (t ++ e) s (by rw [hs]; exact List.append_assoc _ _ _) hb, rStr_read]
  | nstr =>
    obtain ⟨o, ht, rfl⟩ := h
    show rNstr (rI .i16 2 s) = _
    cases o with
    | none => rw [rI_read kb_i16 (-1) (by decide) e s hs hb]; rfl
    | some t =>
      have ht := ht t rfl
      rw [rI_read kb_i16 (t.length : Int) (by simp [IntKind.wrap, IntKind.bits, IntKind.signed]; omega) (t ++ e) s (by rw [hs]; exact List.append_assoc _ _ _) hb, rNstr_read]
  | cnstr =>
    obtain ⟨o, ht, rfl⟩ := h
    show rNstr (rCl s) = _
    cases o with
    | none =>
      have : rCl s = (-1, ⟨some e, false⟩) := by unfold rCl; rw [uv_read 0 (by decide) e s hs hb]; rfl
      rw [this]; rfl
    | some t => rw [rCl_read t.length (ht t rfl) (t ++ e) s (by rw [hs]; exact List.append_assoc _ _ _) hb, rNstr_read]
  | byt =>
    obtain ⟨t, ht, rfl⟩ := h
    show rByt (rI .i32 4 s) = _
    rw [rI_read kb_i32 (t.length : Int) (by simp [IntKind.wrap, IntKind.bits, IntKind.signed]; omega) (t ++ e) s (by rw [hs]; exact List.append_assoc _ _ _) hb, rByt_read]
  | cbyt =>
    obtain ⟨t, ht, rfl⟩ := h
    show rByt (rCl s) = _
    rw [rCl_read t.length ht (t ++ e) s (by rw [hs]; exact List.append_assoc _ _ _) hb, rByt_read]
  | nbyt =>
    obtain ⟨o, ht, rfl⟩ := h
    show rNbyt (rI .i32 4 s) = _
    cases o with
    | none => rw [rI_read kb_i32 (-1) (by decide) e s hs hb]; rfl
    | some t =>
      have ht := ht t rfl
      rw [rI_read kb_i32 (t.length : Int) (by simp [IntKind.wrap, IntKind.bits, IntKind.signed]; omega) (t ++ e) s (by rw [hs]; exact List.append_assoc _ _ _) hb, rNbyt_read]
  | cnbyt =>
    obtain ⟨o, ht, rfl⟩ := h
    show rNbyt (rCl s) = _
    cases o with
    | none =>
      have : rCl s = (-1, ⟨some e, false⟩) := by unfold rCl; rw [uv_read 0 (by decide) e s hs hb]; rfl
      rw [this]; rfl
    | some t => rw [rCl_read t.length (ht t rfl) (t ++ e) s (by rw [hs]; exact List.append_assoc _ _ _) hb, rNbyt_read]

/-- What a reading that does not fail comes to. -/
structure Good (s : RS) (q : List UInt8) (v v' : List CV) (t t' : RS) : Prop where
  bad : s.bad = false
  rest : ∃ r, t = ⟨some r, false⟩ ∧ r.length < s.rest.length
  val : v' = v
  more : t' = t.more q
theorem rStr_F {l : Int} {r : List UInt8} (q : List UInt8) (h : (rStr (l, ⟨some r, false⟩)).2.bad = false) :
    (∃ t : List UInt8, (t.length : Int) = l ∧ (rStr (l, ⟨some r, false⟩)).1 = [.str t]) ∧ (∃ r', (rStr (l, ⟨some r, false⟩)).2 = ⟨some r', false⟩ ∧ r'.length ≤ r.length) ∧ rStr (l, ⟨some (r ++ q), false⟩) = ((rStr (l, ⟨some r, false⟩)).1, (rStr (l, ⟨some r, false⟩)).2.more q) := by
  obtain ⟨h0, h1, h2⟩ := rSpan_good (show (rSpan l ⟨some r, false⟩).2.bad = false from h)
  unfold rStr
  simp only [h2, rSpan_longer q h0 h1]
  exact ⟨⟨r.take l.toNat, by simp; omega, rfl⟩, ⟨_, rfl, by simp⟩, rfl⟩
theorem rNstr_F {l : Int} {r : List UInt8} (q : List UInt8) (h : (rNstr (l, ⟨some r, false⟩)).2.bad = false) :
    (∃ o : Option (List UInt8), (∀ t, o = some t → (t.length : Int) = l) ∧ (rNstr (l, ⟨some r, false⟩)).1 = [.pstr o]) ∧ (∃ r', (rNstr (l, ⟨some r, false⟩)).2 = ⟨some r', false⟩ ∧ r'.length ≤ r.length) ∧ rNstr (l, ⟨some (r ++ q), false⟩) = ((rNstr (l, ⟨some r, false⟩)).1, (rNstr (l, ⟨some r, false⟩)).2.more q) := by
  unfold rNstr at h ⊢
  simp only at h ⊢
  by_cases hl : l < 0
  · simp only [if_pos hl]
    exact ⟨⟨none, by simp, rfl⟩, ⟨_, rfl, Nat.le_refl _⟩, rfl⟩
  · simp only [if_neg hl] at h ⊢
    obtain ⟨h0, h1, h2⟩ := rSpan_good (show (rSpan l ⟨some r, false⟩).2.bad = false from h)
    simp only [h2, rSpan_longer q h0 h1]
    exact ⟨⟨some (r.take l.toNat), by intro t ht; cases ht; simp; omega, rfl⟩, ⟨_, rfl, by simp⟩, rfl⟩
theorem rByt_F {l : Int} {r : List UInt8} (q : List UInt8) (h : (rByt (l, ⟨some r, false⟩)).2.bad = false) :
    (∃ t : List UInt8, ((t.length : Int) = l ∨ t = []) ∧ (rByt (l, ⟨some r, false⟩)).1 = [.bytes (some t)]) ∧ (∃ r', (rByt (l, ⟨some r, false⟩)).2 = ⟨some r', false⟩ ∧ r'.length ≤ r.length) ∧ rByt (l, ⟨some (r ++ q), false⟩) = ((rByt (l, ⟨some r, false⟩)).1, (rByt (l, ⟨some r, false⟩)).2.more q) := by
  unfold rByt at h ⊢
  simp only at h ⊢
  by_cases hl : l = -1
  · simp only [if_pos hl]
    exact ⟨⟨[], .inr rfl, rfl⟩, ⟨_, rfl, Nat.le_refl _⟩, rfl⟩
  · simp only [if_neg hl] at h ⊢
    obtain ⟨h0, h1, h2⟩ := rSpan_good (show (rSpan l ⟨some r, false⟩).2.bad = false from h)
    simp only [h2, rSpan_longer q h0 h1]
    exact ⟨⟨r.take l.toNat, by simp; omega, rfl⟩, ⟨_, rfl, by simp⟩, rfl⟩
theorem rNbyt_F {l : Int} {r : List UInt8} (q : List UInt8) (h : (rNbyt (l, ⟨some r, false⟩)).2.bad = false) :
    (∃ o : Option (List UInt8), (∀ t, o = some t → (t.length : Int) = l) ∧ (rNbyt (l, ⟨some r, false⟩)).1 = [.bytes o]) ∧ (∃ r', (rNbyt (l, ⟨some r, false⟩)).2 = ⟨some r', false⟩ ∧ r'.length ≤ r.length) ∧ rNbyt (l, ⟨some (r ++ q), false⟩) = ((rNbyt (l, ⟨some r, false⟩)).1, (rNbyt (l, ⟨some r, false⟩)).2.more q) := by
  unfold rNbyt at h ⊢
  simp only at h ⊢
  by_cases hl : l < 0
  · simp only [if_pos hl]
    exact ⟨⟨none, by simp, rfl⟩, ⟨_, rfl, Nat.le_refl _⟩, rfl⟩
  · simp only [if_neg hl] at h ⊢
    obtain ⟨h0, h1, h2⟩ := rSpan_good (show (rSpan l ⟨some r, false⟩).2.bad = false from h)
    simp only [h2, rSpan_longer q h0 h1]
    exact ⟨⟨some (r.take l.toNat), by intro t ht; cases ht; simp; omega, rfl⟩, ⟨_, rfl, by simp⟩, rfl⟩
theorem span_bad {l : Int} {t : RS} (h : (rSpan l t).2.bad = false) : t.bad = false := (rSpan_ok h).2.2.1
theorem rStr_bad (l : Int) (t : RS) (h : (rStr (l, t)).2.bad = false) : t.bad = false := span_bad h
theorem rNstr_bad (l : Int) (t : RS) (h : (rNstr (l, t)).2.bad = false) : t.bad = false := by
  unfold rNstr at h
  simp only at h
  split at h
  · exact h
  · exact span_bad h
theorem rByt_bad (l : Int) (t : RS) (h : (rByt (l, t)).2.bad = false) : t.bad = false := by
  unfold rByt at h
  simp only at h
  split at h
  · exact h
  · exact span_bad h
theorem rNbyt_bad (l : Int) (t : RS) (h : (rNbyt (l, t)).2.bad = false) : t.bad = false := by
  unfold rNbyt at h
  simp only at h
  split at h
  · exact h
  · exact span_bad h
theorem num_good {k : IntKind} {b : Nat} (hk : KB k b) (hb : 0 < b) {s : RS} (q : List UInt8) (h : (rI k b s).2.bad = false) :
    s.bad = false ∧ (∃ r, (rI k b s).2 = ⟨some r, false⟩ ∧ r.length < s.rest.length) ∧ rI k b (s.more q) = ((rI k b s).1, (rI k b s).2.more q) := by
  obtain ⟨h1, h2, h3, h4⟩ := rI_ok hk h
  exact ⟨h2, ⟨_, h4, by simp; omega⟩, rI_more q h⟩
theorem cl_good {s : RS} (q : List UInt8) (h : (rCl s).2.bad = false) : s.bad = false ∧ (∃ r, (rCl s).2 = ⟨some r, false⟩ ∧ r.length < s.rest.length) ∧ rCl (s.more q) = ((rCl s).1, (rCl s).2.more q) := by
  obtain ⟨h1, h2, h3, h4⟩ := rCl_ok h
  exact ⟨h3, h4, rCl_more q h⟩
theorem rF_good {F : Int × RS → List CV × RS} {O : Int → List CV → Prop} {s : RS} {x y : Int × RS} (q : List UInt8)
    (hF : ∀ l r, (F (l, ⟨some r, false⟩)).2.bad = false → O l (F (l, ⟨some r, false⟩)).1 ∧ (∃ r', (F (l, ⟨some r, false⟩)).2 = ⟨some r', false⟩ ∧ r'.length ≤ r.length) ∧ F (l, ⟨some (r ++ q), false⟩) = ((F (l, ⟨some r, false⟩)).1, (F (l, ⟨some r, false⟩)).2.more q))
    (hbad : ∀ l t, (F (l, t)).2.bad = false → t.bad = false) (hx : x.2.bad = false → s.bad = false ∧ (∃ r, x.2 = ⟨some r, false⟩ ∧ r.length < s.rest.length) ∧ y = (x.1, x.2.more q)) (h : (F x).2.bad = false) :
    O x.1 (F x).1 ∧ x.2.bad = false ∧ Good s q (F x).1 (F y).1 (F x).2 (F y).2 := by
  obtain ⟨l, t⟩ := x
  have hb := hbad l t h
  obtain ⟨h1, ⟨r, h2, h3⟩, h4⟩ := hx hb
  simp only at h2 h4
  subst h2
  subst h4
  obtain ⟨a1, ⟨r', a2, a3⟩, a4⟩ := hF l r h
  have e : RS.more ⟨some r, false⟩ q = ⟨some (r ++ q), false⟩ := rfl
  refine ⟨a1, rfl, h1, ⟨r', a2, by omega⟩, ?_, ?_⟩
  · rw [e, a4]
  · rw [e, a4]
theorem i16_lt {n : Int} (h : IntKind.i16.wrap n = n) : n < 32768 := by simp [IntKind.wrap, IntKind.bits, IntKind.signed] at h; omega
theorem i32_lt {n : Int} (h : IntKind.i32.wrap n = n) : n < 2147483648 := by simp [IntKind.wrap, IntKind.bits, IntKind.signed] at h; omega
theorem wr_num {k : IntKind} {b : Nat} (hk : KB k b) (hb : 0 < b) {s : RS} (q : List UInt8) (h : (rI k b s).2.bad = false) :
    (∃ n, k.wrap n = n ∧ ([CV.int k (rI k b s).1] : List CV) = [.int k n]) ∧ Good s q [CV.int k (rI k b s).1] [CV.int k (rI k b (s.more q)).1] (rI k b s).2 (rI k b (s.more q)).2 := by
  obtain ⟨h1, h2, h3⟩ := num_good hk hb q h
  refine ⟨⟨_, (rI_ok hk h).2.2.1, rfl⟩, h1, h2, ?_, ?_⟩ <;> rw [h3]
theorem wr_nat {b : Nat} (hb : 0 < b) {s : RS} (q : List UInt8) (f : Nat → CV) (h : (rNat b s).2.bad = false) :
    Good s q [f (rNat b s).1] [f (rNat b (s.more q)).1] (rNat b s).2 (rNat b (s.more q)).2 := by
  obtain ⟨h1, h2, h3⟩ := rNat_ok h
  refine ⟨h2, ⟨s.rest.drop b, by rw [h3], by simp; omega⟩, ?_, ?_⟩ <;> rw [rNat_more q h]
theorem wr_prim (p : WPrim) (s : RS) (q : List UInt8) (h : (rprim p s).2.bad = false) : OkP p (rprim p s).1 ∧ Good s q (rprim p s).1 (rprim p (s.more q)).1 (rprim p s).2 (rprim p (s.more q)).2 := by
  cases p with
  | bool => exact ⟨⟨_, rfl⟩, wr_nat (by decide) q (fun x => .bool (x != 0)) h⟩
  | i8 => exact wr_num kb_i8 (by decide) q h
  | i16 => exact wr_num kb_i16 (by decide) q h
  | u16 => exact wr_num kb_u16 (by decide) q h
  | i32 => exact wr_num kb_i32 (by decide) q h
  | i64 => exact wr_num kb_i64 (by decide) q h
  | f64 =>
    refine ⟨⟨(rNat 8 s).1, ?_, rfl⟩, wr_nat (by decide) q (fun x => .flt x) h⟩
    obtain ⟨h1, h2, h3⟩ := rNat_ok (show (rNat 8 s).2.bad = false from h)
    rw [h3]
    have := beNat_lt (s.rest.take 8)
    rw [List.length_take, Nat.min_eq_left h1] at this
    simpa using this
  | uuid =>
    have h' : (rSpan 16 s).2.bad = false := h
    obtain ⟨h0, h1, h2, h3⟩ := rSpan_ok h'
    have hn : s.src ≠ none := by
      intro e
      simp [RS.rest, e] at h1
    have h3 := h3 hn
    have h4 : rSpan 16 (s.more q) = (some (s.rest.take 16), ⟨some (s.rest.drop 16 ++ q), false⟩) := by
      have := rSpan_longer (l := 16) (r := s.rest) q (by decide) h1
      show rSpan 16 ⟨some (s.rest ++ q), s.bad⟩ = _
      rw [h2]
      exact this
    have e1 : rprim .uuid s = ((s.rest.take 16).map (fun (x : UInt8) => CV.int .u8 x.toNat), ⟨some (s.rest.drop 16), false⟩) := by
      show ((match (rSpan 16 s).1 with
        | some l => l.map fun (x : UInt8) => CV.int .u8 x.toNat
        | none => List.replicate 16 (.int .u8 0)), (rSpan 16 s).2) = _
      rw [h3]; rfl
    have e2 : rprim .uuid (s.more q) = ((s.rest.take 16).map (fun (x : UInt8) => CV.int .u8 x.toNat), ⟨some (s.rest.drop 16 ++ q), false⟩) := by
      show ((match (rSpan 16 (s.more q)).1 with
        | some l => l.map fun (x : UInt8) => CV.int .u8 x.toNat
        | none => List.replicate 16 (.int .u8 0)), (rSpan 16 (s.more q)).2) = _
      rw [h4]
    rw [e1, e2]
    exact ⟨⟨s.rest.take 16, by simp; omega, rfl⟩, h2, ⟨_, rfl, by simp; omega⟩, rfl, rfl⟩
  | str =>
    obtain ⟨⟨t, h1, h2⟩, h3, h4⟩ := rF_good (F := rStr) (O := fun l v => ∃ t : List UInt8, (t.length : Int) = l ∧ v = [.str t]) (x := rI .i16 2 s) (y := rI .i16 2 (s.more q)) q (fun l r h => rStr_F q h) rStr_bad (fun h => num_good kb_i16 (by decide) q h) h
    exact ⟨⟨t, by have := i16_lt (rI_ok kb_i16 h3).2.2.1; omega, h2⟩, h4⟩
  | cstr =>
    obtain ⟨⟨t, h1, h2⟩, h3, h4⟩ := rF_good (F := rStr) (O := fun l v => ∃ t : List UInt8, (t.length : Int) = l ∧ v = [.str t]) (x := rCl s) (y := rCl (s.more q)) q (fun l r h => rStr_F q h) rStr_bad (fun h => cl_good q h) h
    exact ⟨⟨t, by have := (rCl_ok h3).2.1; omega, h2⟩, h4⟩
  | nstr =>
    obtain ⟨⟨o, h1, h2⟩, h3, h4⟩ := rF_good (F := rNstr) (O := fun l v => ∃ o : Option (List UInt8), (∀ t, o = some t → (t.length : Int) = l) ∧ v = [.pstr o]) (x := rI .i16 2 s) (y := rI .i16 2 (s.more q)) q (fun l r h => rNstr_F q h) rNstr_bad (fun h => num_good kb_i16 (by decide) q h) h
    exact ⟨⟨o, fun t ht => by have := i16_lt (rI_ok kb_i16 h3).2.2.1; have := h1 t ht; omega, h2⟩, h4⟩
  | cnstr =>
    obtain ⟨⟨o, h1, h2⟩, h3, h4⟩ := rF_good (F := rNstr) (O := fun l v => ∃ o : Option (List UInt8), (∀ t, o = some t → (t.length : Int) = l) ∧ v = [.pstr o]) (x := rCl s) (y := rCl (s.more q)) q (fun l r h => rNstr_F q h) rNstr_bad (fun h => cl_good q h) h
    exact ⟨⟨o, fun t ht => by have := (rCl_ok h3).2.1; have := h1 t ht; omega, h2⟩, h4⟩
  | byt =>
    obtain ⟨⟨t, h1, h2⟩, h3, h4⟩ := rF_good (F := rByt) (O := fun l v => ∃ t : List UInt8, ((t.length : Int) = l ∨ t = []) ∧ v = [.bytes (some t)]) (x := rI .i32 4 s) (y := rI .i32 4 (s.more q)) q (fun l r h => rByt_F q h) rByt_bad (fun h => num_good kb_i32 (by decide) q h) h
    refine ⟨⟨t, ?_, h2⟩, h4⟩
    rcases h1 with h1 | h1
    · have := i32_lt (rI_ok kb_i32 h3).2.2.1; omega
    · simp [h1]
  | cbyt =>
    obtain ⟨⟨t, h1, h2⟩, h3, h4⟩ := rF_good (F := rByt) (O := fun l v => ∃ t : List UInt8, ((t.length : Int) = l ∨ t = []) ∧ v = [.bytes (some t)]) (x := rCl s) (y := rCl (s.more q)) q (fun l r h => rByt_F q h) rByt_bad (fun h => cl_good q h) h
    refine ⟨⟨t, ?_, h2⟩, h4⟩
    rcases h1 with h1 | h1
    · have := (rCl_ok h3).2.1; omega
    · simp [h1]
  | nbyt =>
    obtain ⟨⟨o, h1, h2⟩, h3, h4⟩ := rF_good (F := rNbyt) (O := fun l v => ∃ o : Option (List UInt8), (∀ t, o = some t → (t.length : Int) = l) ∧ v = [.bytes o]) (x := rI .i32 4 s) (y := rI .i32 4 (s.more q)) q (fun l r h => rNbyt_F q h) rNbyt_bad (fun h => num_good kb_i32 (by decide) q h) h
    exact ⟨⟨o, fun t ht => by have := i32_lt (rI_ok kb_i32 h3).2.2.1; have := h1 t ht; omega, h2⟩, h4⟩
  | cnbyt =>
    obtain ⟨⟨o, h1, h2⟩, h3, h4⟩ := rF_good (F := rNbyt) (O := fun l v => ∃ o : Option (List UInt8), (∀ t, o = some t → (t.length : Int) = l) ∧ v = [.bytes o]) (x := rCl s) (y := rCl (s.more q)) q (fun l r h => rNbyt_F q h) rNbyt_bad (fun h => cl_good q h) h
    exact ⟨⟨o, fun t ht => by have := (rCl_ok h3).2.1; have := h1 t ht; omega, h2⟩, h4⟩
end Go.Proofs.Eng
/-! Schemas at one version: what is written by one is read by it, and the other way round; more bytes behind it are left alone. -/
namespace Go.Proofs.Eng
open Go

inductive Sch where
  | nil
  | prim (p : WPrim) (off : Nat) (k : Sch)
  | arr (c : Bool) (nul : Nat) (wl : LPrim) (off : Nat) (d : List CV) (body : Sch) (k : Sch)
  | tags (off : Nat) (k : Sch)
  | ktag (off : Nat) (d : List CV) (S : Sch) (ot : Nat) (k : Sch)
def wOf : Sch → WP
  | .nil => .nil
  | .prim p o k => .prim p o (wOf k)
  | .arr _ _ wl o d body k => .alen wl o (.loop o d.length (wOf body) (wOf k))
  | .tags o k => .tagn o (.tage o (wOf k))
  | .ktag o d S ot k => .ktag o d.length (wOf S) ot (wOf k)
def rOf : Sch → RP
  | .nil => .nil
  | .prim p o k => .prim p o (rOf k)
  | .arr c nul _ o d body k => .arr c nul o d (rOf body) (rOf k)
  | .tags o k => .tags o (rOf k)
  | .ktag o d S ot k => .ktag o d.length (rOf S) ot (rOf k)

def compact : LPrim → Bool
  | .cal | .cnal => true
  | _ => false
def plain : LPrim → Bool
  | .al | .cal => true
  | _ => false
def LOk (wl : LPrim) (c : Bool) (nul : Nat) : Bool := (compact wl == c) && (!plain wl || nul != 1)
def nlOk : Nat → Bool → Nat → Prop
  | 0, nl, n => nl = decide (n = 0)
  | 1, nl, n => nl = true → n = 0
  | _, nl, _ => nl = false
def pw : WPrim → Nat
  | .uuid => 16
  | _ => 1
/-- Cells that known tags want. -/
def resv : Sch → List (Nat × Nat)
  | .nil => []
  | .prim _ _ k => resv k
  | .tags _ k => resv k
  | .arr _ _ _ _ _ _ k => resv k
  | .ktag o d _ _ k => (o, d.length) :: resv k
def apart (o w : Nat) : List (Nat × Nat) → Bool
  | [] => true
  | p :: r => (Nat.ble (o + w) p.1 || Nat.ble (p.1 + p.2) o) && apart o w r
/-- The forms of a known tag's content. -/
def kS : Sch → List CV → Bool
  | .prim .i16 0 .nil, [.int .i16 n] => n == 0
  | .prim .i32 0 (.prim .i32 1 (.tags 2 .nil)), [.int .i32 n, .int .i32 m, .tags []] => n == 0 && m == 0
  | .arr _ 0 _ 0 _ _ .nil, [.arr true 0 []] => true
  | _, _ => false
/-- Offsets rise, and lie within so many cells; lists have things of at least one byte; the cells of known tags lie ahead of the tags', and nothing else wants them. -/
def SOk : Sch → Nat → Nat → Bool
  | .nil, _, _ => true
  | .prim p o k, lo, len => Nat.ble lo o && Nat.ble (o + pw p) len && apart o (pw p) (resv k) && SOk k (o + pw p) len
  | .tags o k, lo, len => Nat.ble lo o && Nat.blt o len && apart o 1 (resv k) && SOk k (o + 1) len
  | .arr c nul wl o d body k, lo, len => Nat.ble lo o && Nat.blt o len && LOk wl c nul && (match body with | .nil => false | _ => true) && SOk body 0 d.length && apart o 1 (resv k) && SOk k (o + 1) len
  | .ktag o d S ot k, lo, len => Nat.ble (o + d.length) ot && Nat.ble lo ot && Nat.blt ot len && kS S d && SOk S 0 d.length && apart o d.length (resv k) && apart ot 1 (resv k) && SOk k (ot + 1) len

def TagsL (l : List (Nat × List UInt8)) : Prop := l.Pairwise (fun a b => a.1 < b.1) ∧ (∀ t ∈ l, t.1 < 4294967296 ∧ t.2.length < 4294967296) ∧ l.length < 2147483648
def RWs (R : List UInt8 → List CV → Prop) : Nat → List UInt8 → List CV → Prop
  | 0, b, es => b = [] ∧ es = []
  | n + 1, b, es => ∃ b1 e1 b2 es2, R b1 e1 ∧ b = b1 ++ b2 ∧ es = e1 ++ es2 ∧ RWs R n b2 es2
/-- 'b' is what is written of the cells 'out', and 'out' what is read of 'b' where the cells were 'cur'. -/
def RW : Sch → List CV → List UInt8 → List CV → Prop
  | .nil, cur, b, out => b = [] ∧ out = cur
  | .prim p o k, cur, b, out => ∃ v b', OkP p v ∧ b = wprim p v ++ b' ∧ RW k (setAt cur o v) b' out
  | .tags o k, cur, b, out => ∃ l b', TagsL l ∧ b = uv l.length ++ (l.flatMap wtag ++ b') ∧ RW k (setAt cur o [.tags l]) b' out
  | .arr _ nul wl o d body k, cur, b, out => ∃ nl n bs es b', nlOk nul nl n ∧ n < 2147483647 ∧ RWs (fun b e => RW body d b e) n bs es ∧ b = wlen wl nl n ++ (bs ++ b') ∧ RW k (setAt cur o [.arr nl n es]) b' out
  | .ktag o d S ot k, cur, b, out => ∃ v l bt b', (cur.drop o).take d.length = d ∧ v.length = d.length ∧ (present v = false → v = d ∧ bt = []) ∧ (present v = true → RW S d bt v ∧ bt.length < 4294967296) ∧
      TagsL l ∧ (∀ t ∈ l, t.1 ≠ 0) ∧ b = uv (ktl (present v) bt l).length ++ ((ktl (present v) bt l).flatMap wtag ++ b') ∧ RW k (setAt (setAt cur o v) ot [.tags l]) b' out

theorem okP_len {p : WPrim} {v : List CV} (h : OkP p v) : v.length = pw p := by
  cases p with
  | uuid => obtain ⟨l, hl, rfl⟩ := h; simpa [pw] using hl
  | bool => obtain ⟨_, rfl⟩ := h; rfl
  | f64 => obtain ⟨_, _, rfl⟩ := h; rfl
  | _ => obtain ⟨_, _, rfl⟩ := h; rfl
theorem wprim_more {p : WPrim} {v : List CV} (h : OkP p v) (r : List CV) : wprim p (v ++ r) = wprim p v := by
  cases p with
  | uuid =>
    obtain ⟨l, hl, rfl⟩ := h
    show uuidOf (List.take 16 (_ ++ r)) = uuidOf (List.take 16 _)
    rw [List.take_append_of_le_length (by simp [hl])]
  | bool => obtain ⟨_, rfl⟩ := h; rfl
  | nstr => obtain ⟨o, _, rfl⟩ := h; cases o <;> rfl
  | cnstr => obtain ⟨o, _, rfl⟩ := h; cases o <;> rfl
  | nbyt => obtain ⟨o, _, rfl⟩ := h; cases o <;> rfl
  | cnbyt => obtain ⟨o, _, rfl⟩ := h; cases o <;> rfl
  | _ => obtain ⟨_, _, rfl⟩ := h; rfl
theorem uv_pos1 (n : Nat) : 1 ≤ (uv n).length := by
  unfold uv uvF
  split <;> simp
theorem wprim_pos {p : WPrim} {v : List CV} (h : OkP p v) : 1 ≤ (wprim p v).length := by
  cases p with
  | uuid =>
    obtain ⟨l, hl, rfl⟩ := h
    show 1 ≤ (uuidOf (List.take 16 _)).length
    rw [List.take_of_length_le (by simp [hl]), uuidOf_map]
    omega
  | bool => obtain ⟨_, rfl⟩ := h; simp [wprim]
  | nstr => obtain ⟨o, _, rfl⟩ := h; cases o <;> simp [wprim, be_length]; omega
  | cnstr => obtain ⟨o, _, rfl⟩ := h; cases o <;> simp only [wprim, cbytes, List.length_append] <;> have := uv_pos1 <;> first | exact this _ | exact Nat.le_trans (this _) (Nat.le_add_right _ _)
  | nbyt => obtain ⟨o, _, rfl⟩ := h; cases o <;> simp [wprim, be_length]; omega
  | cnbyt => obtain ⟨o, _, rfl⟩ := h; cases o <;> simp only [wprim, cbytes, List.length_append] <;> have := uv_pos1 <;> first | exact this _ | exact Nat.le_trans (this _) (Nat.le_add_right _ _)
  | cstr => obtain ⟨_, _, rfl⟩ := h; simp only [wprim, cbytes, List.length_append]; exact Nat.le_trans (uv_pos1 _) (Nat.le_add_right _ _)
  | cbyt => obtain ⟨_, _, rfl⟩ := h; simp only [wprim, cbytes, List.length_append]; exact Nat.le_trans (uv_pos1 _) (Nat.le_add_right _ _)
  | str => obtain ⟨_, _, rfl⟩ := h; simp [wprim, be_length]; omega
  | byt => obtain ⟨_, _, rfl⟩ := h; simp [wprim, be_length]; omega
  | _ => obtain ⟨_, _, rfl⟩ := h; simp [wprim, be_length]
theorem wlen_pos (wl : LPrim) (nl : Bool) (n : Nat) : 1 ≤ (wlen wl nl n).length := by
  cases wl <;> cases nl <;> simp only [wlen, be_length] <;> first | exact uv_pos1 _ | decide
theorem RW_pos {S : Sch} {cur : List CV} {b : List UInt8} {out : List CV} (hS : S ≠ .nil) (h : RW S cur b out) : 1 ≤ b.length := by
  cases S with
  | nil => exact absurd rfl hS
  | prim p o k => obtain ⟨v, b', h1, rfl, _⟩ := h; have := wprim_pos h1; simp; omega
  | tags o k => obtain ⟨l, b', h1, rfl, _⟩ := h; have := uv_pos1 l.length; simp; omega
  | ktag o d S ot k =>
    obtain ⟨v, l, bt, b', _, _, _, _, _, _, rfl, _⟩ := h
    have := uv_pos1 (ktl (present v) bt l).length
    rw [List.length_append]
    omega
  | arr c nul wl o d body k => obtain ⟨nl, n, bs, es, b', _, _, _, rfl, _⟩ := h; have := wlen_pos wl nl n; simp; omega
theorem RWs_pos {R : List UInt8 → List CV → Prop} (hR : ∀ b e, R b e → 1 ≤ b.length) : ∀ (n : Nat) (b : List UInt8) (es : List CV), RWs R n b es → n ≤ b.length := by
  intro n
  induction n with
  | zero => intro b es _; omega
  | succ n ih =>
    rintro b es ⟨b1, e1, b2, es2, h1, rfl, rfl, h2⟩
    have := hR _ _ h1
    have := ih _ _ h2
    simp
    omega

/-! ## lengths of lists -/
theorem i32_small (n : Int) (h1 : -2147483648 ≤ n) (h2 : n < 2147483648) : IntKind.i32.wrap n = n := by
  simp [IntKind.wrap, IntKind.bits, IntKind.signed]
  split <;> omega
theorem rLenOk_some {r : Int} {e : List UInt8} (h : r ≤ e.length) : rLenOk r ⟨some e, false⟩ = (r, ⟨some e, false⟩) := by
  unfold rLenOk
  rw [if_neg (by simp [RS.rest]; omega)]
theorem rw_len {wl : LPrim} {c : Bool} {nul : Nat} {nl : Bool} {n : Nat} {e : List UInt8} (h : LOk wl c nul = true) (hnl : nlOk nul nl n) (hn : n < 2147483647) (he : n ≤ e.length) :
    ∃ l, rlen c ⟨some (wlen wl nl n ++ e), false⟩ = (l, ⟨some e, false⟩) ∧ l.toNat = n ∧ isNil nul l = nl := by
  have hnil : isNil nul (n : Int) = nl ∨ (plain wl = false ∧ nl = true) := by
    match nul, hnl with
    | 0, hnl => left; simp only [nlOk] at hnl; rw [hnl]; simp [isNil]
    | 1, hnl =>
      cases nl with
      | true =>
        right
        refine ⟨?_, rfl⟩
        simp only [LOk, Bool.and_eq_true] at h
        have := h.2
        cases hp : plain wl <;> simp_all
      | false => left; simp [isNil]
    | k + 2, hnl => left; simp only [nlOk] at hnl; rw [hnl]; rfl
  simp only [LOk, Bool.and_eq_true, beq_iff_eq] at h
  have four : ∀ (m : Int), -1 ≤ m → m < 2147483648 → m ≤ e.length → rlen false ⟨some (be 4 m ++ e), false⟩ = (m, ⟨some e, false⟩) := by
    intro m h1 h2 h3
    have h4 := rI_read kb_i32 m (i32_small m (by omega) h2) e ⟨some (be 4 m ++ e), false⟩ rfl rfl
    show rLenOk (rI .i32 4 ⟨some (be 4 m ++ e), false⟩).1 (rI .i32 4 ⟨some (be 4 m ++ e), false⟩).2 = _
    rw [h4, rLenOk_some h3]
  have comp : ∀ (m : Nat), m < 2147483648 → (m : Int) - 1 ≤ e.length → rlen true ⟨some (uv m ++ e), false⟩ = ((m : Int) - 1, ⟨some e, false⟩) := by
    intro m h1 h2
    have h4 := uv_read m (by omega) e ⟨some (uv m ++ e), false⟩ rfl rfl
    show rLenOk (IntKind.i32.wrap (IntKind.i32.wrap (rUv ⟨some (uv m ++ e), false⟩).1 - 1)) (rUv ⟨some (uv m ++ e), false⟩).2 = _
    rw [h4]
    simp only
    rw [i32_small (m : Int) (by omega) (by omega), i32_small ((m : Int) - 1) (by omega) (by omega), rLenOk_some h2]
  have h0 : nl = true → n = 0 := by
    intro hnl2
    match nul, hnl with
    | 0, hnl => simp only [nlOk] at hnl; rw [hnl] at hnl2; simpa using hnl2
    | 1, hnl => exact hnl hnl2
    | k + 2, hnl => simp only [nlOk] at hnl; rw [hnl] at hnl2; cases hnl2
  have hneg : nl = true → isNil nul (-1) = true := by
    intro hnl2
    match nul, hnl with
    | 0, _ => rfl
    | 1, _ => rfl
    | k + 2, hnl => simp only [nlOk] at hnl; rw [hnl] at hnl2; cases hnl2
  obtain ⟨hc, hp⟩ := h
  subst hc
  have hm : (1 + n) % 4294967296 = n + 1 := by omega
  cases wl with
  | al => exact ⟨n, four n (by omega) (by omega) (by omega), by simp, hnil.resolve_right (by simp [plain])⟩
  | cal =>
    refine ⟨n, ?_, by simp, hnil.resolve_right (by simp [plain])⟩
    show rlen true ⟨some (uv ((1 + n) % 4294967296) ++ e), false⟩ = _
    rw [hm, comp (n + 1) (by omega) (by omega)]
    simp
  | nal =>
    cases nl with
    | true => exact ⟨-1, four (-1) (by omega) (by omega) (by omega), by rw [h0 rfl]; rfl, hneg rfl⟩
    | false => exact ⟨n, four n (by omega) (by omega) (by omega), by simp, hnil.resolve_right (by simp)⟩
  | cnal =>
    cases nl with
    | true =>
      refine ⟨-1, ?_, by rw [h0 rfl]; rfl, hneg rfl⟩
      show rlen true ⟨some (uv 0 ++ e), false⟩ = _
      rw [comp 0 (by omega) (by omega)]
      rfl
    | false =>
      refine ⟨n, ?_, by simp, hnil.resolve_right (by simp)⟩
      show rlen true ⟨some (uv ((1 + n) % 4294967296) ++ e), false⟩ = _
      rw [hm, comp (n + 1) (by omega) (by omega)]
      simp
theorem rLenOk_good {r : Int} {s : RS} (h : (rLenOk r s).2.bad = false) : rLenOk r s = (r, s) ∧ r ≤ s.rest.length ∧ s.bad = false := by
  unfold rLenOk at h ⊢
  split at h
  · cases h
  · rename_i hl
    rw [if_neg hl]
    exact ⟨rfl, by omega, h⟩
theorem wr_len {c : Bool} {s : RS} (q : List UInt8) (h : (rlen c s).2.bad = false) :
    s.bad = false ∧ (∃ r, (rlen c s).2 = ⟨some r, false⟩ ∧ r.length < s.rest.length ∧ (rlen c s).1 ≤ r.length) ∧ rlen c (s.more q) = ((rlen c s).1, (rlen c s).2.more q) := by
  have fin : ∀ (r : Int) (t : List UInt8), r ≤ t.length → rLenOk r (RS.more ⟨some t, false⟩ q) = (r, RS.more ⟨some t, false⟩ q) := by
    intro r t hr
    show rLenOk r ⟨some (t ++ q), false⟩ = _
    rw [rLenOk_some (by simp; omega)]
    rfl
  cases c with
  | false =>
    have h' : (rLenOk (rI .i32 4 s).1 (rI .i32 4 s).2).2.bad = false := h
    obtain ⟨h1, h2, h3⟩ := rLenOk_good h'
    obtain ⟨a1, ⟨r, a2, a3⟩, a4⟩ := num_good kb_i32 (by decide) q h3
    have e : rlen false s = ((rI .i32 4 s).1, ⟨some r, false⟩) := by
      show rLenOk (rI .i32 4 s).1 (rI .i32 4 s).2 = _
      rw [h1, a2]
    rw [e]
    rw [a2] at h2
    refine ⟨a1, ⟨r, rfl, a3, h2⟩, ?_⟩
    show rLenOk (rI .i32 4 (s.more q)).1 (rI .i32 4 (s.more q)).2 = _
    rw [a4, a2]
    exact fin _ _ h2
  | true =>
    have h' : (rLenOk (IntKind.i32.wrap (IntKind.i32.wrap (rUv s).1 - 1)) (rUv s).2).2.bad = false := h
    obtain ⟨h1, h2, h3⟩ := rLenOk_good h'
    obtain ⟨_, a1, r, a2, a3⟩ := rUv_lt h3
    have e : rlen true s = (IntKind.i32.wrap (IntKind.i32.wrap (rUv s).1 - 1), ⟨some r, false⟩) := by
      show rLenOk (IntKind.i32.wrap (IntKind.i32.wrap (rUv s).1 - 1)) (rUv s).2 = _
      rw [h1, a2]
    rw [e]
    rw [a2] at h2
    refine ⟨a1, ⟨r, rfl, a3, h2⟩, ?_⟩
    show rLenOk (IntKind.i32.wrap (IntKind.i32.wrap (rUv (s.more q)).1 - 1)) (rUv (s.more q)).2 = _
    rw [rUv_more q h3, a2]
    exact fin _ _ h2
theorem nlOk_isNil (nul : Nat) (l : Int) : nlOk nul (isNil nul l) l.toNat := by
  match nul with
  | 0 => simp only [nlOk, isNil]; congr 1; simp only [eq_iff_iff]; omega
  | 1 => simp only [nlOk, isNil, decide_eq_true_eq]; omega
  | k + 2 => rfl
end Go.Proofs.Eng
/-! Schemas: the laws of reading and writing. -/
namespace Go.Proofs.Eng
open Go

/-! ## what is written is read -/
theorem tagSet_last {k : Nat} {v : List UInt8} : ∀ {acc : List (Nat × List UInt8)}, (∀ t ∈ acc, t.1 < k) → tagSet k v acc = acc ++ [(k, v)] := by
  intro acc
  induction acc with
  | nil => intro _; rfl
  | cons t r ih =>
    intro h
    have h1 := h t (by simp)
    simp only [tagSet]
    rw [if_neg (by omega), if_neg (by omega), ih (fun u hu => h u (by simp [hu]))]
    rfl
theorem rTagsL_read : ∀ (l acc : List (Nat × List UInt8)) (e : List UInt8), (acc ++ l).Pairwise (fun a b => a.1 < b.1) → (∀ t ∈ l, t.1 < 4294967296 ∧ t.2.length < 4294967296) →
    rTagsL l.length acc ⟨some (l.flatMap wtag ++ e), false⟩ = (acc ++ l, ⟨some e, false⟩) := by
  intro l
  induction l with
  | nil => intro acc e _ _; simp [rTagsL]
  | cons t r ih =>
    intro acc e hp hb
    obtain ⟨hb1, hb2⟩ := hb t (by simp)
    have e1 := uv_read t.1 hb1 (uv t.2.length ++ (t.2 ++ (r.flatMap wtag ++ e))) ⟨some (uv t.1 ++ (uv t.2.length ++ (t.2 ++ (r.flatMap wtag ++ e)))), false⟩ rfl rfl
    have e2 := uv_read t.2.length hb2 (t.2 ++ (r.flatMap wtag ++ e)) ⟨some (uv t.2.length ++ (t.2 ++ (r.flatMap wtag ++ e))), false⟩ rfl rfl
    have e3 := rSpan_read t.2 (r.flatMap wtag ++ e)
    have hs : (t :: r).flatMap wtag ++ e = uv t.1 ++ (uv t.2.length ++ (t.2 ++ (r.flatMap wtag ++ e))) := by
      simp only [List.flatMap_cons, wtag, List.append_assoc]
      rw [Nat.mod_eq_of_lt hb2]
    have hlt : ∀ u ∈ acc, u.1 < t.1 := fun u hu => (List.pairwise_append.1 hp).2.2 u hu t (by simp)
    simp only [List.length_cons, rTagsL]
    rw [hs, e1]
    simp only
    rw [e2]
    simp only
    rw [e3]
    simp only [orNil]
    rw [tagSet_last hlt]
    rw [ih (acc ++ [(t.1, t.2)]) e (by simpa using hp) (fun u hu => hb u (by simp [hu]))]
    simp
theorem rTags_read {l : List (Nat × List UInt8)} (h : TagsL l) (e : List UInt8) : rTags ⟨some (uv l.length ++ (l.flatMap wtag ++ e)), false⟩ = (l, ⟨some e, false⟩) := by
  have h1 := uv_read l.length (by have := h.2.2; omega) (l.flatMap wtag ++ e) ⟨some (uv l.length ++ (l.flatMap wtag ++ e)), false⟩ rfl rfl
  unfold rTags
  rw [h1]
  simp only
  rw [rTagsL_read l [] e (by simpa using h.1) h.2.1]
  simp
theorem kloop_read {f : List CV → RS → Option (List CV × RS)} : ∀ (l acc : List (Nat × List UInt8)) (v : List CV) (e : List UInt8), (acc ++ l).Pairwise (fun a b => a.1 < b.1) → (∀ t ∈ l, t.1 < 4294967296 ∧ t.2.length < 4294967296) → (∀ t ∈ l, t.1 ≠ 0) →
    kloop f l.length v acc ⟨some (l.flatMap wtag ++ e), false⟩ = some (v, acc ++ l, ⟨some e, false⟩) := by
  intro l
  induction l with
  | nil => intro acc v e _ _ _; simp [kloop]
  | cons t r ih =>
    intro acc v e hp hb hz
    obtain ⟨hb1, hb2⟩ := hb t (by simp)
    have e1 := uv_read t.1 hb1 (uv t.2.length ++ (t.2 ++ (r.flatMap wtag ++ e))) ⟨some (uv t.1 ++ (uv t.2.length ++ (t.2 ++ (r.flatMap wtag ++ e)))), false⟩ rfl rfl
    have e2 := uv_read t.2.length hb2 (t.2 ++ (r.flatMap wtag ++ e)) ⟨some (uv t.2.length ++ (t.2 ++ (r.flatMap wtag ++ e))), false⟩ rfl rfl
    have e3 := rSpan_read t.2 (r.flatMap wtag ++ e)
    have hs : (t :: r).flatMap wtag ++ e = uv t.1 ++ (uv t.2.length ++ (t.2 ++ (r.flatMap wtag ++ e))) := by
      simp only [List.flatMap_cons, wtag, List.append_assoc]
      rw [Nat.mod_eq_of_lt hb2]
    have hlt : ∀ u ∈ acc, u.1 < t.1 := fun u hu => (List.pairwise_append.1 hp).2.2 u hu t (by simp)
    have hnz : ¬ t.1 = 0 := hz t (by simp)
    simp only [List.length_cons, kloop]
    rw [hs, e1]
    simp only
    rw [if_neg hnz, e2]
    simp only
    rw [e3]
    simp only [orNil]
    rw [tagSet_last hlt]
    rw [ih (acc ++ [(t.1, t.2)]) v e (by simpa using hp) (fun u hu => hb u (by simp [hu])) (fun u hu => hz u (by simp [hu]))]
    simp
theorem loop_read {f : List CV → RS → Option (List CV × RS)} {R : List UInt8 → List CV → Prop} {d : List CV} (hf : ∀ b e' e, R b e' → f d ⟨some (b ++ e), false⟩ = some (e', ⟨some e, false⟩)) :
    ∀ (n : Nat) (b : List UInt8) (es : List CV) (e : List UInt8), RWs R n b es → loopR f d n ⟨some (b ++ e), false⟩ = some (es, ⟨some e, false⟩) := by
  intro n
  induction n with
  | zero => rintro b es e ⟨rfl, rfl⟩; rfl
  | succ n ih =>
    rintro b es e ⟨b1, e1, b2, es2, h1, rfl, rfl, h2⟩
    simp only [loopR]
    rw [List.append_assoc, hf b1 e1 (b2 ++ e) h1]
    simp only
    rw [ih b2 es2 e h2]
theorem rd_of_wr : ∀ (S : Sch) (lo len : Nat) (cur : List CV) (b : List UInt8) (out : List CV) (e : List UInt8), SOk S lo len = true → RW S cur b out → runR (rOf S) cur ⟨some (b ++ e), false⟩ = some (out, ⟨some e, false⟩) := by
  intro S
  induction S with
  | nil => rintro lo len cur b out e _ ⟨rfl, rfl⟩; rfl
  | prim p o k ih =>
    rintro lo len cur b out e hS ⟨v, b', hv, rfl, hk⟩
    simp only [SOk, Bool.and_eq_true] at hS
    simp only [rOf, runR]
    rw [rw_prim p v (b' ++ e) ⟨some (wprim p v ++ b' ++ e), false⟩ hv (List.append_assoc _ _ _) rfl]
    exact ih _ _ _ _ _ e hS.2 hk
  | tags o k ih =>
    rintro lo len cur b out e hS ⟨l, b', hl, rfl, hk⟩
    simp only [SOk, Bool.and_eq_true] at hS
    simp only [rOf, runR]
    have := rTags_read hl (b' ++ e)
    rw [show uv l.length ++ (l.flatMap wtag ++ b') ++ e = uv l.length ++ (l.flatMap wtag ++ (b' ++ e)) by simp, this]
    exact ih _ _ _ _ _ e hS.2 hk
  | arr c nul wl o d body k ihb ihk =>
    rintro lo len cur b out e hS ⟨nl, n, bs, es, b', hnl, hn, hes, rfl, hk⟩
    simp only [SOk, Bool.and_eq_true] at hS
    obtain ⟨⟨⟨⟨⟨⟨h1, h2⟩, h3⟩, h4⟩, h5⟩, ha⟩, h6⟩ := hS
    have hbody : body ≠ .nil := by rintro rfl; cases h4
    have hpos := RWs_pos (fun b e h => RW_pos hbody h) n bs es hes
    obtain ⟨l, a1, a2, a3⟩ := rw_len (e := bs ++ (b' ++ e)) h3 hnl hn (by simp; omega)
    have hs : wlen wl nl n ++ (bs ++ b') ++ e = wlen wl nl n ++ (bs ++ (b' ++ e)) := by simp
    have hloop := loop_read (f := fun e t => runR (rOf body) e t) (R := fun b e => RW body d b e) (d := d) (fun b e' e h => ihb _ _ _ _ _ e h5 h) n bs es (b' ++ e) hes
    simp only [rOf, runR]
    rw [hs, a1]
    simp only [Bool.false_eq_true, if_false]
    rw [a2, hloop]
    simp only
    rw [a3]
    exact ihk _ _ _ _ _ e h6 hk
  | ktag o d S ot k ihS ihk =>
    rintro lo len cur b out e hS ⟨v, l, bt, b', hd, hvl, hz, hp, hl, hnz, rfl, hk⟩
    simp only [SOk, Bool.and_eq_true] at hS
    obtain ⟨⟨⟨⟨⟨⟨⟨h1, h2⟩, h3⟩, h4⟩, h5⟩, h6⟩, h7⟩, h8⟩ := hS
    have hlen : (ktl (present v) bt l).length < 4294967296 := by
      have := hl.2.2
      unfold ktl
      split
      · simp only [List.length_cons]; omega
      · omega
    have e1 := uv_read _ hlen ((ktl (present v) bt l).flatMap wtag ++ (b' ++ e)) ⟨some (uv (ktl (present v) bt l).length ++ ((ktl (present v) bt l).flatMap wtag ++ (b' ++ e))), false⟩ rfl rfl
    have hs : uv (ktl (present v) bt l).length ++ ((ktl (present v) bt l).flatMap wtag ++ b') ++ e = uv (ktl (present v) bt l).length ++ ((ktl (present v) bt l).flatMap wtag ++ (b' ++ e)) := by simp only [List.append_assoc]
    have key : kloop (fun c t => runR (rOf S) c t) (ktl (present v) bt l).length d [] ⟨some ((ktl (present v) bt l).flatMap wtag ++ (b' ++ e)), false⟩ = some (v, l, ⟨some (b' ++ e), false⟩) := by
      cases hpv : present v with
      | false =>
        have h9 := kloop_read (f := fun c t => runR (rOf S) c t) l [] d (b' ++ e) (by simpa using hl.1) hl.2.1 hnz
        rw [(hz hpv).1]
        simpa [ktl] using h9
      | true =>
        obtain ⟨hr, hbl⟩ := hp hpv
        have hs0 : ((0, bt) :: l).flatMap wtag ++ (b' ++ e) = uv 0 ++ (uv bt.length ++ (bt ++ (l.flatMap wtag ++ (b' ++ e)))) := by
          simp only [List.flatMap_cons, wtag, List.append_assoc]
          rw [Nat.mod_eq_of_lt hbl]
        have f1 := uv_read 0 (by omega) (uv bt.length ++ (bt ++ (l.flatMap wtag ++ (b' ++ e)))) ⟨some (uv 0 ++ (uv bt.length ++ (bt ++ (l.flatMap wtag ++ (b' ++ e))))), false⟩ rfl rfl
        have f2 := uv_read bt.length hbl (bt ++ (l.flatMap wtag ++ (b' ++ e))) ⟨some (uv bt.length ++ (bt ++ (l.flatMap wtag ++ (b' ++ e)))), false⟩ rfl rfl
        have f3 := rSpan_read bt (l.flatMap wtag ++ (b' ++ e))
        have f4 := ihS 0 d.length d bt v [] h5 hr
        rw [List.append_nil] at f4
        have f5 := kloop_read (f := fun c t => runR (rOf S) c t) l [] v (b' ++ e) (by simpa using hl.1) hl.2.1 hnz
        simp only [ktl, if_true, List.length_cons, kloop]
        rw [hs0, f1]
        simp only [if_true]
        rw [f2]
        simp only
        rw [f3]
        simp only
        rw [f4]
        simp only [Bool.false_eq_true, if_false]
        simpa using f5
    simp only [rOf, runR]
    rw [hs, e1, hd]
    simp only
    rw [key]
    exact ihk _ _ _ _ _ e h8 hk

/-! ## what is read is what would be written -/
theorem setAt_length {cs v : List CV} {o : Nat} (h : o + v.length ≤ cs.length) : (setAt cs o v).length = cs.length := by
  simp [setAt]; omega
theorem setAt_take {cs v : List CV} {o : Nat} (h : o + v.length ≤ cs.length) : (setAt cs o v).take (o + v.length) = cs.take o ++ v := by
  unfold setAt
  rw [← List.append_assoc]
  exact List.take_left' (by simp; omega)
theorem split_at {out cur v : List CV} {o w : Nat} (hw : v.length = w) (ho : o ≤ cur.length) (h : out.take (o + w) = cur.take o ++ v) : out.drop o = v ++ out.drop (o + w) := by
  have h1 := List.take_append_drop (o + w) out
  rw [h] at h1
  have h2 : (cur.take o).length = o := by simp; omega
  conv => lhs; rw [← h1]
  rw [List.append_assoc, List.drop_left' h2]
theorem flatMap_range1 {α : Type} (f : Nat → List α) (n : Nat) : (List.range (n + 1)).flatMap f = f 0 ++ (List.range n).flatMap (fun i => f (i + 1)) := by
  rw [List.range_succ_eq_map, List.flatMap_cons, List.flatMap_map]
theorem loop_write {w : List CV → List UInt8} {R : List UInt8 → List CV → Prop} {sz : Nat} (hR : ∀ b e, R b e → e.length = sz ∧ w e = b) :
    ∀ (n : Nat) (b : List UInt8) (es : List CV), RWs R n b es → (List.range n).flatMap (fun i => w (elem es sz i)) = b := by
  intro n
  induction n with
  | zero => rintro b es ⟨rfl, rfl⟩; rfl
  | succ n ih =>
    rintro b es ⟨b1, e1, b2, es2, h1, rfl, rfl, h2⟩
    obtain ⟨h3, h4⟩ := hR _ _ h1
    rw [flatMap_range1]
    have h5 : elem (e1 ++ es2) sz 0 = e1 := by simp [elem, List.take_append_of_le_length (show sz ≤ e1.length by omega), List.take_of_length_le (show e1.length ≤ sz by omega)]
    have h6 : ∀ i, elem (e1 ++ es2) sz (i + 1) = elem es2 sz i := by
      intro i
      simp only [elem]
      rw [Nat.succ_mul, Nat.add_comm, ← h3, ← List.drop_drop, List.drop_left]
    rw [h5, h4]
    simp only [h6]
    rw [ih b2 es2 h2]
theorem setAt_at {l v : List CV} {o : Nat} (h : o + v.length ≤ l.length) (k : Nat) : (setAt l o v)[k]? = if k < o then l[k]? else if k < o + v.length then v[k - o]? else l[k]? := by
  unfold setAt
  by_cases h1 : k < o
  · rw [if_pos h1, List.getElem?_append_left (by simp; omega), List.getElem?_take, if_pos h1]
  · rw [if_neg h1, List.getElem?_append_right (by simp; omega)]
    have e : (l.take o).length = o := by simp; omega
    rw [e]
    by_cases h2 : k < o + v.length
    · rw [if_pos h2, List.getElem?_append_left (by omega)]
    · rw [if_neg h2, List.getElem?_append_right (by omega), List.getElem?_drop]
      congr 1
      omega
theorem drop_at {out v : List CV} {o : Nat} (h : ∀ j, j < v.length → out[o + j]? = v[j]?) : out.drop o = v ++ out.drop (o + v.length) := by
  apply List.ext_getElem?
  intro i
  rw [List.getElem?_drop]
  by_cases hi : i < v.length
  · rw [List.getElem?_append_left hi]; exact h i hi
  · rw [List.getElem?_append_right (by omega), List.getElem?_drop]
    congr 1
    omega
def Free (i : Nat) (l : List (Nat × Nat)) : Prop := ∀ p ∈ l, i < p.1 ∨ p.1 + p.2 ≤ i
theorem apart_free {o w : Nat} : ∀ {l : List (Nat × Nat)}, apart o w l = true → ∀ i, o ≤ i → i < o + w → Free i l := by
  intro l
  induction l with
  | nil => intro _ i _ _ p hp; cases hp
  | cons q r ih =>
    intro h i h1 h2 p hp
    simp only [apart, Bool.and_eq_true, Bool.or_eq_true, Nat.ble_eq] at h
    rcases List.mem_cons.1 hp with rfl | hp
    · omega
    · exact ih h.2 i h1 h2 p hp
theorem runW_of : ∀ (S : Sch) (lo len : Nat) (cur : List CV) (b : List UInt8) (out : List CV), SOk S lo len = true → cur.length = len → RW S cur b out → out.length = len ∧ (∀ i, i < lo → Free i (resv S) → out[i]? = cur[i]?) ∧ runW (wOf S) out = b := by
  intro S
  induction S with
  | nil => rintro lo len cur b out _ hc ⟨rfl, rfl⟩; exact ⟨hc, fun _ _ _ => rfl, rfl⟩
  | prim p o k ih =>
    rintro lo len cur b out hS hc ⟨v, b', hv, rfl, hk⟩
    simp only [SOk, Bool.and_eq_true, Nat.ble_eq] at hS
    obtain ⟨⟨⟨h1, h2⟩, ha⟩, h3⟩ := hS
    have hvl := okP_len hv
    have hfit : o + v.length ≤ cur.length := by omega
    obtain ⟨a1, a2, a3⟩ := ih _ _ _ _ _ h3 (by rw [setAt_length hfit]; exact hc) hk
    have h5 : out.drop o = v ++ out.drop (o + v.length) := by
      refine drop_at (fun j hj => ?_)
      rw [a2 (o + j) (by omega) (apart_free ha _ (by omega) (by omega)), setAt_at hfit, if_neg (by omega), if_pos (by omega)]
      congr 1
      omega
    refine ⟨a1, fun i hi hf => ?_, ?_⟩
    · rw [a2 i (by omega) hf, setAt_at hfit, if_pos (by omega)]
    · simp only [wOf, runW]
      rw [h5, wprim_more hv, a3]
  | tags o k ih =>
    rintro lo len cur b out hS hc ⟨l, b', hl, rfl, hk⟩
    simp only [SOk, Bool.and_eq_true, Nat.ble_eq, Nat.blt_eq] at hS
    obtain ⟨⟨⟨h1, h2⟩, ha⟩, h3⟩ := hS
    have hfit : o + [CV.tags l].length ≤ cur.length := by simp; omega
    obtain ⟨a1, a2, a3⟩ := ih _ _ _ _ _ h3 (by rw [setAt_length hfit]; exact hc) hk
    have h6 : out[o]? = some (.tags l) := by
      rw [a2 o (by omega) (apart_free ha _ (by omega) (by omega)), setAt_at hfit, if_neg (by omega), if_pos (by simp), Nat.sub_self]
      rfl
    refine ⟨a1, fun i hi hf => ?_, ?_⟩
    · rw [a2 i (by omega) hf, setAt_at hfit, if_pos (by omega)]
    · simp only [wOf, runW, h6, wtagn, wtage, a3]
      rw [Nat.mod_eq_of_lt (by have := hl.2.2; omega)]
  | arr c nul wl o d body k ihb ihk =>
    rintro lo len cur b out hS hc ⟨nl, n, bs, es, b', hnl, hn, hes, rfl, hk⟩
    simp only [SOk, Bool.and_eq_true, Nat.ble_eq, Nat.blt_eq] at hS
    obtain ⟨⟨⟨⟨⟨⟨h1, h2⟩, h3⟩, h4⟩, h5⟩, ha⟩, h6⟩ := hS
    have hfit : o + [CV.arr nl n es].length ≤ cur.length := by simp; omega
    obtain ⟨a1, a2, a3⟩ := ihk _ _ _ _ _ h6 (by rw [setAt_length hfit]; exact hc) hk
    have h9 : out[o]? = some (.arr nl n es) := by
      rw [a2 o (by omega) (apart_free ha _ (by omega) (by omega)), setAt_at hfit, if_neg (by omega), if_pos (by simp), Nat.sub_self]
      rfl
    refine ⟨a1, fun i hi hf => ?_, ?_⟩
    · rw [a2 i (by omega) hf, setAt_at hfit, if_pos (by omega)]
    · simp only [wOf, runW, h9, walen]
      rw [loop_write (w := fun e => runW (wOf body) e) (R := fun b e => RW body d b e) (fun b e h => by
        obtain ⟨x1, _, x3⟩ := ihb _ _ _ _ _ h5 rfl h
        exact ⟨x1, x3⟩) n bs es hes, a3]
  | ktag o d S ot k ihS ihk =>
    rintro lo len cur b out hS hc ⟨v, l, bt, b', hd, hvl, hz, hp, hl, hnz, rfl, hk⟩
    simp only [SOk, Bool.and_eq_true, Nat.ble_eq, Nat.blt_eq] at hS
    obtain ⟨⟨⟨⟨⟨⟨⟨h1, h2⟩, h3⟩, h4⟩, h5⟩, h6⟩, h7⟩, h8⟩ := hS
    have hfit : o + v.length ≤ cur.length := by omega
    have hfit2 : ot + [CV.tags l].length ≤ (setAt cur o v).length := by rw [setAt_length hfit]; simp; omega
    obtain ⟨a1, a2, a3⟩ := ihk _ _ _ _ _ h8 (by rw [setAt_length hfit2, setAt_length hfit]; exact hc) hk
    have h9 : out[ot]? = some (.tags l) := by
      rw [a2 ot (by omega) (apart_free h7 _ (by omega) (by omega)), setAt_at hfit2, if_neg (by omega), if_pos (by simp), Nat.sub_self]
      rfl
    have h10 : out.drop o = v ++ out.drop (o + v.length) := by
      refine drop_at (fun j hj => ?_)
      rw [a2 (o + j) (by omega) (apart_free h6 _ (by omega) (by omega)), setAt_at hfit2, if_pos (by omega), setAt_at hfit, if_neg (by omega), if_pos (by omega)]
      congr 1
      omega
    have h11 : (out.drop o).take d.length = v := by
      rw [h10]
      exact List.take_left' hvl
    refine ⟨a1, fun i hi hf => ?_, ?_⟩
    · have hf0 := hf (o, d.length) (by simp [resv])
      have hfk : Free i (resv k) := fun p hp => hf p (by simp [resv, hp])
      simp only at hf0
      rw [a2 i (by omega) hfk, setAt_at hfit2, if_pos (by omega), setAt_at hfit]
      by_cases hio : i < o
      · rw [if_pos hio]
      · rw [if_neg hio, if_neg (by omega)]
    · have hbt : ktl (present v) (runW (wOf S) v) l = ktl (present v) bt l := by
        cases hpv : present v with
        | false => rfl
        | true => rw [(ihS 0 d.length d bt v h5 rfl (hp hpv).1).2.2]
      have hlen : (ktl (present v) bt l).length < 4294967296 := by
        have := hl.2.2
        unfold ktl
        split
        · simp only [List.length_cons]; omega
        · omega
      simp only [wOf, runW, h11, h9, tagsOf, hbt, wkt, a3]
      rw [Nat.mod_eq_of_lt hlen, List.append_assoc]
end Go.Proofs.Eng
/-! Schemas: what is read, without a failure, is what would be written; and it is read so with more bytes behind it. -/
namespace Go.Proofs.Eng
open Go

theorem tagSet_mem {k : Nat} {v : List UInt8} : ∀ {l : List (Nat × List UInt8)} {t : Nat × List UInt8}, t ∈ tagSet k v l → t = (k, v) ∨ t ∈ l := by
  intro l
  induction l with
  | nil => intro t h; simpa [tagSet] using h
  | cons u r ih =>
    intro t h
    simp only [tagSet] at h
    split at h
    · rcases List.mem_cons.1 h with h | h
      · exact .inl h
      · exact .inr h
    · split at h
      · rcases List.mem_cons.1 h with h | h
        · exact .inl h
        · exact .inr (List.mem_cons_of_mem _ h)
      · rcases List.mem_cons.1 h with h | h
        · exact .inr (h ▸ List.mem_cons_self)
        · exact (ih h).imp id (List.mem_cons_of_mem _)
theorem tagSet_sorted {k : Nat} {v : List UInt8} : ∀ {l : List (Nat × List UInt8)}, l.Pairwise (fun a b => a.1 < b.1) → (tagSet k v l).Pairwise (fun a b => a.1 < b.1) := by
  intro l
  induction l with
  | nil => intro _; simp [tagSet]
  | cons u r ih =>
    intro h
    obtain ⟨h1, h2⟩ := List.pairwise_cons.1 h
    simp only [tagSet]
    split
    · rename_i hk
      refine List.pairwise_cons.2 ⟨?_, h⟩
      intro t ht
      rcases List.mem_cons.1 ht with ht | ht
      · subst ht; exact hk
      · have := h1 t ht; show k < t.1; omega
    · split
      · rename_i hk
        refine List.pairwise_cons.2 ⟨?_, h2⟩
        intro t ht
        have := h1 t ht
        show k < t.1
        omega
      · refine List.pairwise_cons.2 ⟨?_, ih h2⟩
        intro t ht
        rcases tagSet_mem ht with ht | ht
        · subst ht; show u.1 < k; omega
        · exact h1 t ht
theorem tagSet_length (k : Nat) (v : List UInt8) : ∀ (l : List (Nat × List UInt8)), (tagSet k v l).length ≤ l.length + 1 := by
  intro l
  induction l with
  | nil => simp [tagSet]
  | cons u r ih =>
    simp only [tagSet]
    split
    · simp
    · split
      · simp
      · simp only [List.length_cons]; omega
theorem rTagsL_good (q : List UInt8) : ∀ (n : Nat) (acc : List (Nat × List UInt8)) (s : RS), (rTagsL n acc s).2.bad = false → s.rest.length < 130000000 →
    s.bad = false ∧ (rTagsL n acc s).2.rest.length + n ≤ s.rest.length ∧ rTagsL n acc (s.more q) = ((rTagsL n acc s).1, (rTagsL n acc s).2.more q) ∧
    (acc.Pairwise (fun a b => a.1 < b.1) → (rTagsL n acc s).1.Pairwise (fun a b => a.1 < b.1)) ∧
    ((∀ t ∈ acc, t.1 < 4294967296 ∧ t.2.length < 4294967296) → ∀ t ∈ (rTagsL n acc s).1, t.1 < 4294967296 ∧ t.2.length < 4294967296) ∧ (rTagsL n acc s).1.length ≤ acc.length + n := by
  intro n
  induction n with
  | zero => intro acc s h _; exact ⟨h, Nat.le_refl _, rfl, id, id, Nat.le_refl _⟩
  | succ n ih =>
    intro acc s h hl
    simp only [rTagsL] at h ⊢
    -- what was not bad at the end was not bad before
    have hb3 : (rSpan ((rUv (rUv s).2).1 : Int) (rUv (rUv s).2).2).2.bad = false := by
      have key : ∀ (m : Nat) (a : List (Nat × List UInt8)) (t : RS), (rTagsL m a t).2.bad = false → t.bad = false := by
        intro m
        induction m with
        | zero => intro a t h; exact h
        | succ m ih2 =>
          intro a t h
          simp only [rTagsL] at h
          have h3 := span_bad (ih2 _ _ h)
          exact (rUv_lt (rUv_lt h3).2.1).2.1
      exact key _ _ _ h
    have hb2 : (rUv (rUv s).2).2.bad = false := span_bad hb3
    obtain ⟨l2, b1, r2, e2, c2⟩ := rUv_lt hb2
    obtain ⟨l1, b0, r1, e1, c1⟩ := rUv_lt b1
    have m1 := rUv_more q b1
    have m2 := rUv_more q hb2
    rw [e2] at hb3
    obtain ⟨g0, g1, g2⟩ := rSpan_good hb3
    have g3 := rSpan_longer q g0 g1
    have e2' : rSpan ((rUv (rUv s).2).1 : Int) (rUv (rUv s).2).2 = (some (r2.take ((rUv (rUv s).2).1 : Int).toNat), ⟨some (r2.drop ((rUv (rUv s).2).1 : Int).toNat), false⟩) := by rw [e2]; exact g2
    rw [e2'] at h ⊢
    simp only at h ⊢
    have hr1 : (rUv s).2.rest.length = r1.length := by rw [e1]; rfl
    have hl3 : (RS.rest ⟨some (r2.drop ((rUv (rUv s).2).1 : Int).toNat), false⟩).length ≤ r2.length := by simp [RS.rest]
    obtain ⟨i1, i2, i3, i4, i5, i6⟩ := ih _ _ h (by omega)
    refine ⟨b0, by omega, ?_, ?_, ?_, ?_⟩
    · rw [m1]
      simp only
      rw [m2]
      simp only
      rw [e2]
      show rTagsL n (tagSet (rUv s).1 (orNil (rSpan ((rUv (rUv s).2).1 : Int) ⟨some (r2 ++ q), false⟩).1) acc) (rSpan ((rUv (rUv s).2).1 : Int) ⟨some (r2 ++ q), false⟩).2 = _
      rw [g3]
      exact i3
    · intro hp; exact i4 (tagSet_sorted hp)
    · intro hp
      refine i5 ?_
      intro t ht
      rcases tagSet_mem ht with ht | ht
      · subst ht
        refine ⟨l1, ?_⟩
        simp only [orNil]
        simp
        omega
      · exact hp t ht
    · have := tagSet_length (rUv s).1 (orNil (some (r2.take ((rUv (rUv s).2).1 : Int).toNat))) acc
      omega
theorem rTags_good (q : List UInt8) (s : RS) (h : (rTags s).2.bad = false) (hl : s.rest.length < 130000000) :
    s.bad = false ∧ (rTags s).2.rest.length < s.rest.length ∧ rTags (s.more q) = ((rTags s).1, (rTags s).2.more q) ∧ TagsL (rTags s).1 := by
  have h' : (rTagsL (rUv s).1 [] (rUv s).2).2.bad = false := h
  by_cases hu : (rUv s).2.bad = false
  · obtain ⟨l1, b0, r1, e1, c1⟩ := rUv_lt hu
    have hr1 : (rUv s).2.rest.length = r1.length := by rw [e1]; rfl
    obtain ⟨i1, i2, i3, i4, i5, i6⟩ := rTagsL_good q _ _ _ h' (by omega)
    refine ⟨b0, ?_, ?_, i4 (by simp), i5 (by simp), ?_⟩
    · show (rTagsL (rUv s).1 [] (rUv s).2).2.rest.length < _
      omega
    · show rTagsL (rUv (s.more q)).1 [] (rUv (s.more q)).2 = _
      rw [rUv_more q hu]
      exact i3
    · show (rTagsL (rUv s).1 [] (rUv s).2).1.length < _
      simp at i6
      omega
  · exfalso
    unfold rUv at hu h'
    split at hu
    · rename_i x r hx
      rw [hx] at h'
      simp only at hu h'
      obtain ⟨i1, _⟩ := rTagsL_good q _ _ _ h' (by
        have := rUvL_lt 4 1 0 _ _ _ hx (by omega)
        simp only [RS.rest]
        show r.length < _
        omega)
      exact hu i1
    · rename_i hx
      rw [hx] at h'
      cases h'
theorem rTagsL_bad : ∀ (m : Nat) (a : List (Nat × List UInt8)) (t : RS), (rTagsL m a t).2.bad = false → t.bad = false := by
  intro m
  induction m with
  | zero => intro a t h; exact h
  | succ m ih2 =>
    intro a t h
    simp only [rTagsL] at h
    have h3 := span_bad (ih2 _ _ h)
    exact (rUv_lt (rUv_lt h3).2.1).2.1
theorem rTags_bad {s : RS} (h : (rTags s).2.bad = false) : s.bad = false := (rUv_lt (rTagsL_bad _ _ _ h)).2.1
theorem loop_bad {f : List CV → RS → Option (List CV × RS)} {d : List CV} (hf : ∀ s e s', f d s = some (e, s') → s'.bad = false → s.bad = false) :
    ∀ (n : Nat) (s : RS) (es : List CV) (s' : RS), loopR f d n s = some (es, s') → s'.bad = false → s.bad = false := by
  intro n
  induction n with
  | zero => intro s es s' h hb; cases h; exact hb
  | succ n ih =>
    intro s es s' h hb
    simp only [loopR] at h
    cases h1 : f d s with
    | none => rw [h1] at h; cases h
    | some x =>
      obtain ⟨e1, s1⟩ := x
      rw [h1] at h
      simp only at h
      cases h2 : loopR f d n s1 with
      | none => rw [h2] at h; cases h
      | some y =>
        obtain ⟨es2, s2⟩ := y
        rw [h2] at h
        cases h
        exact hf _ _ _ h1 (ih _ _ _ h2 hb)
theorem kloop_bad {f : List CV → RS → Option (List CV × RS)} : ∀ (n : Nat) (v : List CV) (l : List (Nat × List UInt8)) (s : RS) (v' : List CV) (l' : List (Nat × List UInt8)) (t : RS), kloop f n v l s = some (v', l', t) → t.bad = false → s.bad = false := by
  intro n
  induction n with
  | zero => intro v l s v' l' t h hb; cases h; exact hb
  | succ n ih =>
    intro v l s v' l' t h hb
    have fin : (rSpan ((rUv (rUv s).2).1 : Int) (rUv (rUv s).2).2).2.bad = false → s.bad = false := fun h => (rUv_lt (rUv_lt (span_bad h)).2.1).2.1
    simp only [kloop] at h
    split at h
    · split at h
      · cases h
      · split at h
        · cases h
        · exact fin (ih _ _ _ _ _ _ h hb)
    · exact fin (ih _ _ _ _ _ _ h hb)
theorem runR_bad : ∀ (S : Sch) (cur : List CV) (s : RS) (out : List CV) (s' : RS), runR (rOf S) cur s = some (out, s') → s'.bad = false → s.bad = false := by
  intro S
  induction S with
  | nil => intro cur s out s' h hb; cases h; exact hb
  | prim p o k ih =>
    intro cur s out s' h hb
    simp only [rOf, runR] at h
    exact (wr_prim p s [] (ih _ _ _ _ h hb)).2.bad
  | tags o k ih =>
    intro cur s out s' h hb
    simp only [rOf, runR] at h
    exact rTags_bad (ih _ _ _ _ h hb)
  | arr c nul wl o d body k ihb ihk =>
    intro cur s out s' h hb
    simp only [rOf, runR] at h
    split at h
    · cases h
    · rename_i hbad
      exact (wr_len [] (by simpa using hbad)).1
  | ktag o d S ot k ihS ihk =>
    intro cur s out s' h hb
    simp only [rOf, runR] at h
    split at h
    · cases h
    · rename_i v l t hk
      exact (rUv_lt (kloop_bad _ _ _ _ _ _ _ hk (ihk _ _ _ _ h hb))).2.1
end Go.Proofs.Eng
/-! Plans that are the same: tests by computing. -/
namespace Go.Proofs.Eng
open Go

def wpEq : WP → WP → Bool
  | .nil, .nil => true
  | .lit b k, .lit b' k' => (b == b') && wpEq k k'
  | .prim p o k, .prim p' o' k' => decide (p = p') && Nat.beq o o' && wpEq k k'
  | .alen p o k, .alen p' o' k' => decide (p = p') && Nat.beq o o' && wpEq k k'
  | .loop o e b k, .loop o' e' b' k' => Nat.beq o o' && Nat.beq e e' && wpEq b b' && wpEq k k'
  | .tagn o k, .tagn o' k' => Nat.beq o o' && wpEq k k'
  | .tage o k, .tage o' k' => Nat.beq o o' && wpEq k k'
  | .ktag o w b t k, .ktag o' w' b' t' k' => Nat.beq o o' && Nat.beq w w' && wpEq b b' && Nat.beq t t' && wpEq k k'
  | _, _ => false
theorem wpEq_ok : ∀ {a b : WP}, wpEq a b = true → a = b := by
  intro a
  induction a with
  | nil => intro b h; cases b <;> simp_all [wpEq]
  | lit x k ih => intro b h; cases b <;> simp_all [wpEq]; exact ih h.2
  | prim p o k ih => intro b h; cases b <;> simp_all [wpEq, Nat.beq_eq]; exact ih h.2
  | alen p o k ih => intro b h; cases b <;> simp_all [wpEq, Nat.beq_eq]; exact ih h.2
  | loop o e x k ihx ihk => intro b h; cases b <;> simp_all [wpEq, Nat.beq_eq]; exact ⟨ihx h.1.2, ihk h.2⟩
  | tagn o k ih => intro b h; cases b <;> simp_all [wpEq, Nat.beq_eq]; exact ih h.2
  | tage o k ih => intro b h; cases b <;> simp_all [wpEq, Nat.beq_eq]; exact ih h.2
  | ktag o w x t k ihx ihk => intro b h; cases b <;> simp_all [wpEq, Nat.beq_eq]; exact ⟨ihx h.1.1.2, ihk h.2⟩
/-- Cells that say nothing much: those of a fresh struct. -/
def cvEq0 : CV → CV → Bool
  | .int k n, .int k' n' => ikeq k k' && decide (n = n')
  | .bool b, .bool b' => b == b'
  | .flt b, .flt b' => Nat.beq b b'
  | .str s, .str s' => s == s'
  | .pstr none, .pstr none => true
  | .bytes none, .bytes none => true
  | .tags [], .tags [] => true
  | .arr a n [], .arr a' n' [] => a == a' && Nat.beq n n'
  | _, _ => false
theorem cvEq0_ok {a b : CV} (h : cvEq0 a b = true) : a = b := by
  unfold cvEq0 at h
  split at h
  · simp only [Bool.and_eq_true, decide_eq_true_eq] at h
    rw [ikeq_eq h.1, h.2]
  · simpa using h
  · simpa [Nat.beq_eq] using h
  · simpa using h
  · rfl
  · rfl
  · rfl
  · simp only [Bool.and_eq_true, beq_iff_eq, Nat.beq_eq] at h
    rw [h.1, h.2]
  · cases h
def cvsEq0 : List CV → List CV → Bool
  | [], [] => true
  | a :: r, b :: s => cvEq0 a b && cvsEq0 r s
  | _, _ => false
theorem cvsEq0_ok : ∀ {a b : List CV}, cvsEq0 a b = true → a = b := by
  intro a
  induction a with
  | nil => intro b h; cases b <;> simp_all [cvsEq0]
  | cons x r ih =>
    intro b h
    cases b with
    | nil => simp [cvsEq0] at h
    | cons y s =>
      simp only [cvsEq0, Bool.and_eq_true] at h
      rw [cvEq0_ok h.1, ih h.2]
def rpEq : RP → RP → Bool
  | .nil, .nil => true
  | .prim p o k, .prim p' o' k' => decide (p = p') && Nat.beq o o' && rpEq k k'
  | .arr c n o d b k, .arr c' n' o' d' b' k' => (c == c') && Nat.beq n n' && Nat.beq o o' && cvsEq0 d d' && rpEq b b' && rpEq k k'
  | .tags o k, .tags o' k' => Nat.beq o o' && rpEq k k'
  | .ktag o w b t k, .ktag o' w' b' t' k' => Nat.beq o o' && Nat.beq w w' && rpEq b b' && Nat.beq t t' && rpEq k k'
  | _, _ => false
theorem rpEq_ok : ∀ {a b : RP}, rpEq a b = true → a = b := by
  intro a
  induction a with
  | nil => intro b h; cases b <;> simp_all [rpEq]
  | prim p o k ih => intro b h; cases b <;> simp_all [rpEq, Nat.beq_eq]; exact ih h.2
  | arr c n o d x k ihx ihk =>
    intro b h
    cases b <;> simp_all [rpEq, Nat.beq_eq]
    exact ⟨cvsEq0_ok h.1.1.2, ihx h.1.2, ihk h.2⟩
  | tags o k ih => intro b h; cases b <;> simp_all [rpEq, Nat.beq_eq]; exact ih h.2
  | ktag o w x t k ihx ihk => intro b h; cases b <;> simp_all [rpEq, Nat.beq_eq]; exact ⟨ihx h.1.1.2, ihk h.2⟩
end Go.Proofs.Eng
/-! What is written of what was read is no longer than so many times what was read. -/
namespace Go.Proofs.Eng
open Go

theorem wb_span {l : Int} {t : RS} (h : (rSpan l t).2.bad = false) : (orNil (rSpan l t).1).length + (rSpan l t).2.rest.length ≤ t.rest.length := by
  unfold rSpan at h ⊢
  split
  · rename_i hc
    rw [if_pos hc] at h
    cases h
  · split
    · simp [orNil]
    · rename_i b hb
      simp [orNil, RS.rest, hb]
      omega
theorem wb_rStr (x : Int × RS) (h : (rStr x).2.bad = false) : ∃ t : List UInt8, (rStr x).1 = [.str t] ∧ t.length + (rStr x).2.rest.length ≤ x.2.rest.length := ⟨_, rfl, wb_span h⟩
theorem wb_rNstr (x : Int × RS) (h : (rNstr x).2.bad = false) : ∃ o : Option (List UInt8), (rNstr x).1 = [.pstr o] ∧ (orNil o).length + (rNstr x).2.rest.length ≤ x.2.rest.length := by
  unfold rNstr at h ⊢
  split
  · exact ⟨none, rfl, by simp [orNil]⟩
  · rename_i hc
    rw [if_neg hc] at h
    exact ⟨_, rfl, wb_span h⟩
theorem wb_rByt (x : Int × RS) (h : (rByt x).2.bad = false) : ∃ o : Option (List UInt8), (rByt x).1 = [.bytes o] ∧ (orNil o).length + (rByt x).2.rest.length ≤ x.2.rest.length := by
  unfold rByt at h ⊢
  split
  · exact ⟨some [], rfl, by simp [orNil]⟩
  · rename_i hc
    rw [if_neg hc] at h
    exact ⟨_, rfl, wb_span h⟩
theorem wb_rNbyt (x : Int × RS) (h : (rNbyt x).2.bad = false) : ∃ o : Option (List UInt8), (rNbyt x).1 = [.bytes o] ∧ (orNil o).length + (rNbyt x).2.rest.length ≤ x.2.rest.length := by
  unfold rNbyt at h ⊢
  split
  · exact ⟨none, rfl, by simp [orNil]⟩
  · rename_i hc
    rw [if_neg hc] at h
    exact ⟨_, rfl, wb_span h⟩
theorem cbytes_le (s : List UInt8) : (cbytes s).length ≤ 10 + s.length := by
  have := uv_length ((1 + s.length) % 4294967296)
  simp only [cbytes, List.length_append]
  omega
theorem be_le (k : Nat) (n : Int) (s : List UInt8) : (be k n ++ s).length = k + s.length := by simp [be_length]
theorem wb_num {k : IntKind} {b : Nat} (hk : KB k b) (hb : 0 < b) {s : RS} (h : (rI k b s).2.bad = false) : (rI k b s).2.rest.length < s.rest.length := by
  obtain ⟨r, h1, h2⟩ := (num_good hk hb [] h).2.1
  rw [h1]
  exact h2
theorem wb_cl {s : RS} (h : (rCl s).2.bad = false) : (rCl s).2.rest.length < s.rest.length := by
  obtain ⟨r, h1, h2⟩ := (cl_good [] h).2.1
  rw [h1]
  exact h2
theorem wb_prim (p : WPrim) (s : RS) (h : (rprim p s).2.bad = false) : (wprim p (rprim p s).1).length + 32 * (rprim p s).2.rest.length ≤ 32 * s.rest.length := by
  obtain ⟨hok, hgood⟩ := wr_prim p s [] h
  obtain ⟨r, hr, hlt⟩ := hgood.rest
  have hrl : (rprim p s).2.rest.length = r.length := by rw [hr]; rfl
  cases p with
  | bool => obtain ⟨b, e⟩ := hok; rw [e]; simp only [wprim, List.length_singleton]; omega
  | i8 => obtain ⟨b, _, e⟩ := hok; rw [e]; simp only [wprim, be_length]; omega
  | i16 => obtain ⟨b, _, e⟩ := hok; rw [e]; simp only [wprim, be_length]; omega
  | u16 => obtain ⟨b, _, e⟩ := hok; rw [e]; simp only [wprim, be_length]; omega
  | i32 => obtain ⟨b, _, e⟩ := hok; rw [e]; simp only [wprim, be_length]; omega
  | i64 => obtain ⟨b, _, e⟩ := hok; rw [e]; simp only [wprim, be_length]; omega
  | f64 => obtain ⟨b, _, e⟩ := hok; rw [e]; simp only [wprim, be_length]; omega
  | uuid =>
    obtain ⟨l, hl, e⟩ := hok
    rw [e]
    have : wprim .uuid (l.map fun x => CV.int .u8 x.toNat) = l := by
      show uuidOf (List.take 16 _) = l
      rw [List.take_of_length_le (by simp [hl]), uuidOf_map]
    rw [this]
    omega
  | str =>
    have h1 := wb_num kb_i16 (by decide) (rStr_bad _ _ h)
    obtain ⟨t, e, h2⟩ := wb_rStr (rI .i16 2 s) h
    show (wprim .str (rStr (rI .i16 2 s)).1).length + 32 * (rStr (rI .i16 2 s)).2.rest.length ≤ _
    rw [e]
    show (be 2 (t.length : Int) ++ t).length + _ ≤ _
    rw [be_le]
    omega
  | cstr =>
    have h1 := wb_cl (rStr_bad _ _ h)
    obtain ⟨t, e, h2⟩ := wb_rStr (rCl s) h
    show (wprim .cstr (rStr (rCl s)).1).length + 32 * (rStr (rCl s)).2.rest.length ≤ _
    rw [e]
    have := cbytes_le t
    show (cbytes t).length + _ ≤ _
    omega
  | nstr =>
    have h1 := wb_num kb_i16 (by decide) (rNstr_bad _ _ h)
    obtain ⟨o, e, h2⟩ := wb_rNstr (rI .i16 2 s) h
    show (wprim .nstr (rNstr (rI .i16 2 s)).1).length + 32 * (rNstr (rI .i16 2 s)).2.rest.length ≤ _
    rw [e]
    cases o with
    | none => show (be 2 (-1)).length + _ ≤ _; rw [be_length]; omega
    | some t =>
      show (be 2 (t.length : Int) ++ t).length + _ ≤ _
      rw [be_le]
      simp only [orNil] at h2
      omega
  | cnstr =>
    have h1 := wb_cl (rNstr_bad _ _ h)
    obtain ⟨o, e, h2⟩ := wb_rNstr (rCl s) h
    show (wprim .cnstr (rNstr (rCl s)).1).length + 32 * (rNstr (rCl s)).2.rest.length ≤ _
    rw [e]
    cases o with
    | none => have := uv_length 0; show (uv 0).length + _ ≤ _; omega
    | some t =>
      have := cbytes_le t
      show (cbytes t).length + _ ≤ _
      simp only [orNil] at h2
      omega
  | byt =>
    have h1 := wb_num kb_i32 (by decide) (rByt_bad _ _ h)
    obtain ⟨o, e, h2⟩ := wb_rByt (rI .i32 4 s) h
    show (wprim .byt (rByt (rI .i32 4 s)).1).length + 32 * (rByt (rI .i32 4 s)).2.rest.length ≤ _
    rw [e]
    cases o with
    | none => show (be 4 0).length + _ ≤ _; rw [be_length]; omega
    | some t =>
      show (be 4 (t.length : Int) ++ t).length + _ ≤ _
      rw [be_le]
      simp only [orNil] at h2
      omega
  | cbyt =>
    have h1 := wb_cl (rByt_bad _ _ h)
    obtain ⟨o, e, h2⟩ := wb_rByt (rCl s) h
    show (wprim .cbyt (rByt (rCl s)).1).length + 32 * (rByt (rCl s)).2.rest.length ≤ _
    rw [e]
    cases o with
    | none => have := cbytes_le []; show (cbytes []).length + _ ≤ _; simp only [List.length_nil] at this; omega
    | some t =>
      have := cbytes_le t
      show (cbytes t).length + _ ≤ _
      simp only [orNil] at h2
      omega
  | nbyt =>
    have h1 := wb_num kb_i32 (by decide) (rNbyt_bad _ _ h)
    obtain ⟨o, e, h2⟩ := wb_rNbyt (rI .i32 4 s) h
    show (wprim .nbyt (rNbyt (rI .i32 4 s)).1).length + 32 * (rNbyt (rI .i32 4 s)).2.rest.length ≤ _
    rw [e]
    cases o with
    | none => show (be 4 (-1)).length + _ ≤ _; rw [be_length]; omega
    | some t =>
      show (be 4 (t.length : Int) ++ t).length + _ ≤ _
      rw [be_le]
      simp only [orNil] at h2
      omega
  | cnbyt =>
    have h1 := wb_cl (rNbyt_bad _ _ h)
    obtain ⟨o, e, h2⟩ := wb_rNbyt (rCl s) h
    show (wprim .cnbyt (rNbyt (rCl s)).1).length + 32 * (rNbyt (rCl s)).2.rest.length ≤ _
    rw [e]
    cases o with
    | none => have := uv_length 0; show (uv 0).length + _ ≤ _; omega
    | some t =>
      have := cbytes_le t
      show (cbytes t).length + _ ≤ _
      simp only [orNil] at h2
      omega
theorem wtag_le (k : Nat) (v : List UInt8) : (wtag (k, v)).length ≤ 20 + v.length := by
  have h1 := uv_length k
  have h2 := uv_length (v.length % 4294967296)
  simp only [wtag, List.length_append]
  omega
theorem tagSet_le (k : Nat) (v : List UInt8) : ∀ (l : List (Nat × List UInt8)), ((tagSet k v l).flatMap wtag).length ≤ (l.flatMap wtag).length + (20 + v.length) := by
  intro l
  have hw := wtag_le k v
  induction l with
  | nil => simp [tagSet]; omega
  | cons u r ih =>
    simp only [tagSet]
    split
    · simp only [List.flatMap_cons, List.length_append]; omega
    · split
      · simp only [List.flatMap_cons, List.length_append]; omega
      · simp only [List.flatMap_cons, List.length_append]; omega
theorem wb_tagsL : ∀ (n : Nat) (acc : List (Nat × List UInt8)) (s : RS), (rTagsL n acc s).2.bad = false → ((rTagsL n acc s).1.flatMap wtag).length + 32 * (rTagsL n acc s).2.rest.length ≤ (acc.flatMap wtag).length + 32 * s.rest.length := by
  intro n
  induction n with
  | zero => intro acc s _; exact Nat.le_refl _
  | succ n ih =>
    intro acc s h
    simp only [rTagsL] at h ⊢
    have h3 := rTagsL_bad _ _ _ h
    have h2 := span_bad h3
    obtain ⟨_, b1, r2, e2, c2⟩ := rUv_lt h2
    obtain ⟨_, b0, r1, e1, c1⟩ := rUv_lt b1
    have i1 := ih _ _ h
    have i2 := tagSet_le (rUv s).1 (orNil (rSpan ((rUv (rUv s).2).1 : Int) (rUv (rUv s).2).2).1) acc
    have i3 := wb_span h3
    have l2 : (rUv (rUv s).2).2.rest.length = r2.length := by rw [e2]; rfl
    have l1 : (rUv s).2.rest.length = r1.length := by rw [e1]; rfl
    omega
theorem wb_tags {s : RS} (h : (rTags s).2.bad = false) : (uv (rTags s).1.length ++ (rTags s).1.flatMap wtag).length + 32 * (rTags s).2.rest.length ≤ 32 * s.rest.length := by
  have h' : (rTagsL (rUv s).1 [] (rUv s).2).2.bad = false := h
  have h1 := rTagsL_bad _ _ _ h'
  obtain ⟨_, b0, r1, e1, c1⟩ := rUv_lt h1
  have l1 : (rUv s).2.rest.length = r1.length := by rw [e1]; rfl
  have i1 := wb_tagsL _ _ _ h'
  have i2 := uv_length (rTags s).1.length
  have e : rTags s = rTagsL (rUv s).1 [] (rUv s).2 := rfl
  rw [e] at i2
  rw [List.length_append, e]
  simp only [List.flatMap_nil, List.length_nil] at i1
  omega
theorem wlen_le (p : LPrim) (nl : Bool) (n : Nat) : (wlen p nl n).length ≤ 10 := by
  cases p <;> cases nl <;> simp only [wlen] <;> first | exact uv_length _ | (simp [be_length])
theorem wb_loop {f : List CV → RS → Option (List CV × RS)} {R : List UInt8 → List CV → Prop} {d : List CV} (hs : ∀ s e s', f d s = some (e, s') → s'.bad = false → s.bad = false)
    (hf : ∀ s e s', f d s = some (e, s') → s'.bad = false → s.rest.length < 130000000 → ∃ b, R b e ∧ b.length + 32 * s'.rest.length ≤ 32 * s.rest.length) :
    ∀ (n : Nat) (s : RS) (es : List CV) (s' : RS), loopR f d n s = some (es, s') → s'.bad = false → s.rest.length < 130000000 →
      ∃ b, RWs R n b es ∧ b.length + 32 * s'.rest.length ≤ 32 * s.rest.length := by
  intro n
  induction n with
  | zero => intro s es s' h hb hl; cases h; exact ⟨[], ⟨rfl, rfl⟩, by simp⟩
  | succ n ih =>
    intro s es s' h hb hl
    simp only [loopR] at h
    cases h1 : f d s with
    | none => rw [h1] at h; cases h
    | some x =>
      obtain ⟨e1, s1⟩ := x
      rw [h1] at h
      simp only at h
      cases h2 : loopR f d n s1 with
      | none => rw [h2] at h; cases h
      | some y =>
        obtain ⟨es2, s2⟩ := y
        rw [h2] at h
        cases h
        have hb1 := loop_bad hs n s1 es2 s' h2 hb
        obtain ⟨b1, j1, j2⟩ := hf s e1 s1 h1 hb1 hl
        obtain ⟨b2, i1, i2⟩ := ih s1 es2 s' h2 hb (by omega)
        exact ⟨b1 ++ b2, ⟨b1, e1, b2, es2, j1, rfl, rfl, i1⟩, by rw [List.length_append]; omega⟩
/-! ## known tags -/
/-- The cells of known tags are as they were made. -/
def KOk : Sch → List CV → Prop
  | .nil, _ => True
  | .prim _ _ k, cur => KOk k cur
  | .tags _ k, cur => KOk k cur
  | .arr _ _ _ _ d body k, cur => KOk body d ∧ KOk k cur
  | .ktag o d S _ k, cur => ((cur.drop o).take d.length = d ∧ KOk S d) ∧ KOk k cur
theorem KOk_set {o : Nat} {v : List CV} : ∀ {S : Sch} {cur : List CV}, KOk S cur → o + v.length ≤ cur.length → apart o v.length (resv S) = true → KOk S (setAt cur o v) := by
  intro S
  induction S with
  | nil => intro cur _ _ _; trivial
  | prim p o' k ih => intro cur h h1 h2; exact ih h h1 h2
  | tags o' k ih => intro cur h h1 h2; exact ih h h1 h2
  | arr c nul wl o' d body k ihb ihk => intro cur h h1 h2; exact ⟨h.1, ihk h.2 h1 h2⟩
  | ktag o' d S ot k ihS ihk =>
    intro cur h h1 h2
    simp only [resv, apart, Bool.and_eq_true, Bool.or_eq_true, Nat.ble_eq] at h2
    refine ⟨⟨?_, h.1.2⟩, ihk h.2 h1 h2.2⟩
    have e : ((setAt cur o v).drop o').take d.length = (cur.drop o').take d.length := by
      apply List.ext_getElem?
      intro i
      rw [List.getElem?_take, List.getElem?_take]
      split
      · rename_i hi
        rw [List.getElem?_drop, List.getElem?_drop, setAt_at h1]
        by_cases hio : o' + i < o
        · rw [if_pos hio]
        · rw [if_neg hio, if_neg (by omega)]
      · rfl
    rw [e]
    exact h.1.1
/-- What the cells of a known tag say, and what is written of them. -/
def KI (S : Sch) (d v : List CV) (bt : List UInt8) : Prop := v.length = d.length ∧ (present v = false → v = d ∧ bt = []) ∧ (present v = true → RW S d bt v ∧ bt.length < 4294967296)
def TL (l : List (Nat × List UInt8)) : Prop := l.Pairwise (fun a b => a.1 < b.1) ∧ (∀ t ∈ l, t.1 < 4294967296 ∧ t.2.length < 4294967296) ∧ ∀ t ∈ l, t.1 ≠ 0
theorem kS_inv {S : Sch} {d : List CV} (h : kS S d = true) : (S = .prim .i16 0 .nil ∧ d = [.int .i16 0]) ∨ (S = .prim .i32 0 (.prim .i32 1 (.tags 2 .nil)) ∧ d = [.int .i32 0, .int .i32 0, .tags []]) ∨ (∃ c wl e body, S = .arr c 0 wl 0 e body .nil ∧ d = [.arr true 0 []]) := by
  unfold kS at h
  split at h
  · rename_i n
    have : n = 0 := by simpa using h
    subst this
    exact .inl ⟨rfl, rfl⟩
  · rename_i n m
    simp only [Bool.and_eq_true, beq_iff_eq] at h
    obtain ⟨rfl, rfl⟩ := h
    exact .inr (.inl ⟨rfl, rfl⟩)
  · exact .inr (.inr ⟨_, _, _, _, rfl, rfl⟩)
  · cases h
theorem kS_zero {S : Sch} {d : List CV} (h : kS S d = true) : present d = false := by
  rcases kS_inv h with ⟨_, rfl⟩ | ⟨_, rfl⟩ | ⟨_, _, _, _, _, rfl⟩ <;> rfl
theorem KI_start {S : Sch} {d : List CV} (h : kS S d = true) : KI S d d [] := ⟨rfl, fun _ => ⟨rfl, rfl⟩, fun h2 => by rw [kS_zero h] at h2; cases h2⟩
/-- What stood in the cells of a known tag doesn't count. -/
theorem kS_any {S : Sch} {d v v1 : List CV} {b : List UInt8} (h : kS S d = true) (hv : v.length = d.length) (hr : RW S v b v1) : v1.length = d.length ∧ RW S d b v1 ∧ (present v1 = false → v1 = d) := by
  rcases kS_inv h with ⟨rfl, rfl⟩ | ⟨rfl, rfl⟩ | ⟨c, wl, e, body, rfl, rfl⟩
  · obtain ⟨v', b', ⟨n, hn, rfl⟩, rfl, hb', rfl⟩ := hr
    match v, hv with
    | [c0], _ =>
      refine ⟨rfl, ⟨_, _, ⟨n, hn, rfl⟩, rfl, hb', rfl⟩, fun hp => ?_⟩
      have : n = 0 := by
        by_cases h0 : n = 0
        · exact h0
        · simp [present, isZ, setAt, h0] at hp
      subst this
      rfl
  · obtain ⟨v', b', ⟨n, hn, rfl⟩, rfl, v2, b2, ⟨m, hm, rfl⟩, rfl, l, b3, hl, rfl, hb3, rfl⟩ := hr
    match v, hv with
    | [c0, c1, c2], _ =>
      refine ⟨rfl, ⟨_, _, ⟨n, hn, rfl⟩, rfl, _, _, ⟨m, hm, rfl⟩, rfl, l, _, hl, rfl, hb3, rfl⟩, fun hp => ?_⟩
      have hp' : (n == 0 && (m == 0 && (l.isEmpty && true))) = true := by
        have : (!(n == 0 && (m == 0 && (l.isEmpty && true)))) = false := hp
        simpa using this
      simp only [Bool.and_eq_true, beq_iff_eq, List.isEmpty_iff] at hp'
      obtain ⟨rfl, rfl, rfl, _⟩ := hp'
      rfl
  · obtain ⟨nl, n, bs, es, b', hnl, hn, hes, rfl, hb', rfl⟩ := hr
    match v, hv with
    | [c0], _ =>
      refine ⟨rfl, ⟨nl, n, bs, es, _, hnl, hn, hes, rfl, hb', rfl⟩, fun hp => ?_⟩
      have h0 : n = 0 := by
        have : (!(Nat.beq n 0 && true)) = false := hp
        simpa using this
      subst h0
      obtain ⟨_, rfl⟩ := hes
      simp only [nlOk] at hnl
      subst hnl
      rfl
theorem kS_read {S : Sch} {d v v1 : List CV} {sp : List UInt8} {t1 : RS} (h : kS S d = true) (hKv : KOk S v)
    (ih : ∀ (cur : List CV) (s : RS) (out : List CV) (s' : RS), KOk S cur → cur.length = d.length → runR (rOf S) cur s = some (out, s') → s'.bad = false → s.rest.length < 130000000 → ∃ b, RW S cur b out ∧ b.length + 32 * s'.rest.length ≤ 32 * s.rest.length)
    (hv : v.length = d.length) (hr : runR (rOf S) v ⟨some sp, false⟩ = some (v1, t1)) (hb : t1.bad = false) (hl : sp.length < 130000000) : ∃ bt, KI S d v1 bt ∧ bt.length ≤ 32 * sp.length := by
  obtain ⟨b, h1, h2⟩ := ih v ⟨some sp, false⟩ v1 t1 hKv hv hr hb hl
  have hsp : (RS.mk (some sp) false).rest.length = sp.length := rfl
  obtain ⟨h3, h4, h5⟩ := kS_any h hv h1
  cases hp : present v1 with
  | false => exact ⟨[], ⟨h3, (fun _ => ⟨h5 hp, rfl⟩), (fun h6 => by rw [hp] at h6; cases h6)⟩, Nat.zero_le _⟩
  | true => exact ⟨b, ⟨h3, (fun h6 => by rw [hp] at h6; cases h6), fun _ => ⟨h4, by omega⟩⟩, by omega⟩
theorem KOk_any {S : Sch} {d v : List CV} (h : kS S d = true) (hK : KOk S d) : KOk S v := by
  rcases kS_inv h with ⟨rfl, rfl⟩ | ⟨rfl, rfl⟩ | ⟨c, wl, e, body, rfl, rfl⟩
  · trivial
  · trivial
  · exact ⟨hK.1, trivial⟩
theorem ktl_le (p : Bool) (bt : List UInt8) (l : List (Nat × List UInt8)) : (l.flatMap wtag).length ≤ ((ktl p bt l).flatMap wtag).length ∧ ((ktl p bt l).flatMap wtag).length ≤ (l.flatMap wtag).length + (20 + bt.length) := by
  have := wtag_le 0 bt
  cases p with
  | false => exact ⟨Nat.le_refl _, Nat.le_add_right _ _⟩
  | true =>
    simp only [ktl, if_true, List.flatMap_cons, List.length_append]
    omega
theorem kloop_wb {S : Sch} {d : List CV} (hS : kS S d = true) (hKd : KOk S d)
    (ihS : ∀ (cur : List CV) (s : RS) (out : List CV) (s' : RS), KOk S cur → cur.length = d.length → runR (rOf S) cur s = some (out, s') → s'.bad = false → s.rest.length < 130000000 → ∃ b, RW S cur b out ∧ b.length + 32 * s'.rest.length ≤ 32 * s.rest.length) : ∀ (n : Nat) (v : List CV) (l : List (Nat × List UInt8)) (s : RS) (v' : List CV) (l' : List (Nat × List UInt8)) (t : RS) (bt : List UInt8),
    kloop (fun c t => runR (rOf S) c t) n v l s = some (v', l', t) → t.bad = false → s.rest.length < 130000000 → KI S d v bt → TL l →
    ∃ bt', KI S d v' bt' ∧ TL l' ∧ l'.length ≤ l.length + n ∧ t.rest.length + n ≤ s.rest.length ∧ ((ktl (present v') bt' l').flatMap wtag).length + 32 * t.rest.length ≤ ((ktl (present v) bt l).flatMap wtag).length + 32 * s.rest.length := by
  intro n
  induction n with
  | zero => intro v l s v' l' t bt h _ _ hK hT; cases h; exact ⟨bt, hK, hT, Nat.le_refl _, Nat.le_refl _, Nat.le_refl _⟩
  | succ n ih =>
    intro v l s v' l' t bt h hb hl hK hT
    simp only [kloop] at h
    have hb3 : (rSpan ((rUv (rUv s).2).1 : Int) (rUv (rUv s).2).2).2.bad = false := by
      split at h
      · split at h
        · cases h
        · split at h
          · cases h
          · exact kloop_bad _ _ _ _ _ _ _ h hb
      · exact kloop_bad _ _ _ _ _ _ _ h hb
    have hb2 : (rUv (rUv s).2).2.bad = false := span_bad hb3
    obtain ⟨l2, b1, r2, e2, c2⟩ := rUv_lt hb2
    obtain ⟨l1, b0, r1, e1, c1⟩ := rUv_lt b1
    rw [e2] at hb3
    obtain ⟨g0, g1, g2⟩ := rSpan_good hb3
    have e2' : rSpan ((rUv (rUv s).2).1 : Int) (rUv (rUv s).2).2 = (some (r2.take ((rUv (rUv s).2).1 : Int).toNat), ⟨some (r2.drop ((rUv (rUv s).2).1 : Int).toNat), false⟩) := by rw [e2]; exact g2
    have hr1 : (rUv s).2.rest.length = r1.length := by rw [e1]; rfl
    rw [e2'] at h
    simp only at h
    generalize ((rUv (rUv s).2).1 : Int).toNat = z at h
    have hdl : (RS.rest ⟨some (r2.drop z), false⟩).length = r2.length - z := by simp [RS.rest]
    have htl : (r2.take z).length = min z r2.length := by simp
    split at h
    · split at h
      · cases h
      · rename_i v1 t1 hrd
        split at h
        · cases h
        · rename_i ht1
          obtain ⟨bt1, k1, k2⟩ := kS_read hS (KOk_any hS hKd) ihS hK.1 hrd (by simpa using ht1) (by omega)
          obtain ⟨bt', i1, i2, i3, i4, i5⟩ := ih _ _ _ _ _ _ bt1 h hb (by omega) k1 hT
          have m1 := ktl_le (present v1) bt1 l
          have m2 := ktl_le (present v) bt l
          exact ⟨bt', i1, i2, by omega, by omega, by omega⟩
    · rename_i hk0
      have hT' : TL (tagSet (rUv s).1 (orNil (some (r2.take z))) l) := by
        refine ⟨tagSet_sorted hT.1, ?_, ?_⟩
        · intro x hx
          rcases tagSet_mem hx with rfl | hx
          · refine ⟨l1, ?_⟩
            simp only [orNil]
            omega
          · exact hT.2.1 x hx
        · intro x hx
          rcases tagSet_mem hx with rfl | hx
          · exact hk0
          · exact hT.2.2 x hx
      obtain ⟨bt', i1, i2, i3, i4, i5⟩ := ih _ _ _ _ _ _ bt h hb (by omega) hK hT'
      have m3 := tagSet_le (rUv s).1 (orNil (some (r2.take z))) l
      have m4 := tagSet_length (rUv s).1 (orNil (some (r2.take z))) l
      simp only [orNil] at m3 m4 i3 i5
      have m5 : ((ktl (present v) bt (tagSet (rUv s).1 (r2.take z) l)).flatMap wtag).length ≤ ((ktl (present v) bt l).flatMap wtag).length + (20 + (r2.take z).length) := by
        cases present v with
        | false => exact m3
        | true =>
          simp only [ktl, if_true, List.flatMap_cons, List.length_append]
          omega
      exact ⟨bt', i1, i2, by omega, by omega, by omega⟩
theorem wb_of_rd : ∀ (S : Sch) (lo len : Nat) (cur : List CV) (s : RS) (out : List CV) (s' : RS), SOk S lo len = true → KOk S cur → cur.length = len → runR (rOf S) cur s = some (out, s') → s'.bad = false → s.rest.length < 130000000 →
    ∃ b, RW S cur b out ∧ b.length + 32 * s'.rest.length ≤ 32 * s.rest.length := by
  intro S
  induction S with
  | nil => intro lo len cur s out s' _ _ _ h hb _; cases h; exact ⟨[], ⟨rfl, rfl⟩, by simp⟩
  | prim p o k ih =>
    intro lo len cur s out s' hS hK hc h hb hl
    simp only [SOk, Bool.and_eq_true, Nat.ble_eq] at hS
    obtain ⟨⟨⟨h1, h2⟩, ha⟩, h3⟩ := hS
    simp only [rOf, runR] at h
    have hb1 := runR_bad k _ _ _ _ h hb
    have hw := wb_prim p s hb1
    have hok := (wr_prim p s [] hb1).1
    have hvl := okP_len hok
    obtain ⟨b, i1, i2⟩ := ih _ _ _ _ _ _ h3 (KOk_set hK (by omega) (by rw [hvl]; exact ha)) (by rw [setAt_length (by omega)]; exact hc) h hb (by omega)
    exact ⟨_, ⟨_, b, hok, rfl, i1⟩, by rw [List.length_append]; omega⟩
  | tags o k ih =>
    intro lo len cur s out s' hS hK hc h hb hl
    simp only [SOk, Bool.and_eq_true, Nat.ble_eq, Nat.blt_eq] at hS
    obtain ⟨⟨⟨h1, h2⟩, ha⟩, h3⟩ := hS
    simp only [rOf, runR] at h
    have hb1 := runR_bad k _ _ _ _ h hb
    have hw := wb_tags hb1
    obtain ⟨_, g2, g3, g4⟩ := rTags_good [] s hb1 hl
    have hfit : o + [CV.tags (rTags s).1].length ≤ cur.length := by simp; omega
    obtain ⟨b, i1, i2⟩ := ih _ _ _ _ _ _ h3 (KOk_set hK hfit ha) (by rw [setAt_length hfit]; exact hc) h hb (by omega)
    refine ⟨_, ⟨_, b, g4, rfl, i1⟩, ?_⟩
    rw [← List.append_assoc, List.length_append]
    omega
  | arr c nul wl o d body k ihb ihk =>
    intro lo len cur s out s' hS hK hc h hb hl
    simp only [SOk, Bool.and_eq_true, Nat.ble_eq, Nat.blt_eq] at hS
    obtain ⟨⟨⟨⟨⟨⟨h1, h2⟩, h3⟩, h4⟩, h5⟩, ha⟩, h6⟩ := hS
    simp only [rOf, runR] at h
    split at h
    · cases h
    · rename_i hbad
      have hbad : (rlen c s).2.bad = false := by simpa using hbad
      obtain ⟨_, ⟨r, g2, g3, g4⟩, g5⟩ := wr_len [] hbad
      have hr : (rlen c s).2.rest.length = r.length := by rw [g2]; rfl
      cases hlp : loopR (fun e t => runR (rOf body) e t) d (rlen c s).1.toNat (rlen c s).2 with
      | none => rw [hlp] at h; cases h
      | some x =>
        obtain ⟨es, t⟩ := x
        rw [hlp] at h
        simp only at h
        have hb1 := runR_bad k _ _ _ _ h hb
        have hfit : o + [CV.arr (isNil nul (rlen c s).1) (rlen c s).1.toNat es].length ≤ cur.length := by simp; omega
        obtain ⟨bs, j1, j2⟩ := wb_loop (R := fun b e => RW body d b e) (fun s e s' a b => runR_bad body d s e s' a b) (fun s e s' a b c => ihb _ _ _ _ _ _ h5 hK.1 rfl a b c) _ _ _ _ hlp hb1 (by omega)
        obtain ⟨b, i1, i2⟩ := ihk _ _ _ _ _ _ h6 (KOk_set hK.2 hfit ha) (by rw [setAt_length hfit]; exact hc) h hb (by omega)
        have hw := wlen_le wl (isNil nul (rlen c s).1) (rlen c s).1.toNat
        refine ⟨_, ⟨_, (rlen c s).1.toNat, bs, es, b, nlOk_isNil nul (rlen c s).1, by omega, j1, rfl, i1⟩, ?_⟩
        simp only [List.length_append]
        omega
  | ktag o d S ot k ihS ihk =>
    intro lo len cur s out s' hS hK hc h hb hl
    simp only [SOk, Bool.and_eq_true, Nat.ble_eq, Nat.blt_eq] at hS
    obtain ⟨⟨⟨⟨⟨⟨⟨h1, h2⟩, h3⟩, h4⟩, h5⟩, h6⟩, h7⟩, h8⟩ := hS
    simp only [rOf, runR] at h
    rw [hK.1.1] at h
    split at h
    · cases h
    · rename_i v l t hkl
      have hb1 := runR_bad k _ _ _ _ h hb
      obtain ⟨l1, b0, r1, e1, c1⟩ := rUv_lt (kloop_bad _ _ _ _ _ _ _ hkl hb1)
      have hr1 : (rUv s).2.rest.length = r1.length := by rw [e1]; rfl
      obtain ⟨bt, k1, k2, k3, k4, k5⟩ := kloop_wb h4 hK.1.2 (fun cur s out s' a b c d e => ihS 0 _ cur s out s' h5 a b c d e) _ _ _ _ _ _ _ [] hkl hb1 (by omega) (KI_start h4) ⟨by simp, by simp, by simp⟩
      have hfit : o + v.length ≤ cur.length := by have := k1.1; omega
      have hfit2 : ot + [CV.tags l].length ≤ (setAt cur o v).length := by rw [setAt_length hfit]; simp; omega
      obtain ⟨b, i1, i2⟩ := ihk _ _ _ _ _ _ h8 (KOk_set (KOk_set hK.2 hfit (by rw [k1.1]; exact h6)) hfit2 h7) (by rw [setAt_length hfit2, setAt_length hfit]; exact hc) h hb (by omega)
      have hpd := kS_zero h4
      have hu := uv_length (ktl (present v) bt l).length
      refine ⟨_, ⟨v, l, bt, b, hK.1.1, k1.1, k1.2.1, k1.2.2, ⟨k2.1, k2.2.1, by simp at k3; omega⟩, k2.2.2, rfl, i1⟩, ?_⟩
      simp only [hpd, ktl, Bool.false_eq_true, if_false, List.flatMap_nil, List.length_nil] at k5
      simp only [List.length_append]
      unfold ktl at *
      omega
/-- How long what is written of what was read may be. -/
theorem written_le {S : Sch} {d : List CV} {s : RS} {out : List CV} {s' : RS} (hS : SOk S 0 d.length = true) (hK : KOk S d) (h : runR (rOf S) d s = some (out, s')) (hb : s'.bad = false) (hl : s.rest.length < 130000000) : (runW (wOf S) out).length ≤ 32 * s.rest.length := by
  obtain ⟨b, h1, h2⟩ := wb_of_rd S 0 d.length d s out s' hS hK rfl h hb hl
  rw [(runW_of S 0 d.length d b out hS rfl h1).2.2]
  omega
end Go.Proofs.Eng
