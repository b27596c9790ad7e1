/-
  The reference's rules of writing as plain functions over lists; what its data are in memory.
-/
import Derived.Test.YtbcfmhgcpijfnaaDoorPA
set_option linter.unusedVariables false
set_option linter.unusedSimpArgs false
namespace Go.Proofs.Eng
open Go Go.RowKit

/-- A field of the reference. -/
inductive Fld where
  | mk (kind from_ to null tag dflt of : Int) (sub : List Fld)
def Fld.kind : Fld → Int | .mk k _ _ _ _ _ _ _ => k
def Fld.from_ : Fld → Int | .mk _ x _ _ _ _ _ _ => x
def Fld.to : Fld → Int | .mk _ _ x _ _ _ _ _ => x
def Fld.null : Fld → Int | .mk _ _ _ x _ _ _ _ => x
def Fld.tag : Fld → Int | .mk _ _ _ _ x _ _ _ => x
def Fld.dflt : Fld → Int | .mk _ _ _ _ _ x _ _ => x
def Fld.of : Fld → Int | .mk _ _ _ _ _ _ x _ => x
def Fld.sub : Fld → List Fld | .mk _ _ _ _ _ _ _ x => x

/-- What a field says. -/
inductive Tree where
  | mk (N : Int) (S : List UInt8) (nl : Bool) (L : List Tree) (U : List (Nat × List UInt8))
def Tree.N : Tree → Int | .mk x _ _ _ _ => x
def Tree.S : Tree → List UInt8 | .mk _ x _ _ _ => x
def Tree.nl : Tree → Bool | .mk _ _ x _ _ => x
def Tree.L : Tree → List Tree | .mk _ _ _ x _ => x
def Tree.U : Tree → List (Nat × List UInt8) | .mk _ _ _ _ x => x
def Tree.zero : Tree := .mk 0 [] false [] []

def sHas (f : Fld) (ver : Int) : Bool := decide (f.from_ ≤ ver) && (decide (f.to < 0) || decide (ver ≤ f.to))
def sNull (f : Fld) (ver : Int) (t : Tree) : Bool := t.nl && (decide (0 ≤ f.null) && decide (f.null ≤ ver))
def sAt (t : Tree) (i : Nat) : Tree := match t.L[i]? with | some x => x | none => .zero
def sWidth (kind : Int) : Nat := if kind = 1 then 1 else if kind = 2 then 2 else if kind = 5 then 2 else if kind = 3 then 4 else 8
def sCounted (flex null : Bool) (n size : Nat) : List UInt8 :=
  if flex && null then [0] else if flex then uv (n + 1) else if null then be size (-1) else be size n
def sBool (n : Int) : UInt8 := if n % 2 = 0 then 0 else 1
def sUuid (s : List UInt8) : List UInt8 := s.take 16 ++ List.replicate (16 - s.length) 0
def sText (flex null : Bool) (size : Nat) (s : List UInt8) : List UInt8 := let b := if null then [] else s.take 32767; sCounted flex null b.length size ++ b
def sValue (part : List Fld → Tree → List UInt8) (kind : Int) (sub : List Fld) (null flex : Bool) (t : Tree) : List UInt8 :=
  if kind = 0 then [sBool t.N] else if kind = 7 then sUuid t.S else if kind = 8 then sText flex null 2 t.S else if kind = 9 then sText flex null 4 t.S
  else if kind = 10 then part sub t else be (sWidth kind) t.N
def sField (part : List Fld → Tree → List UInt8) (ver : Int) (flex : Bool) (f : Fld) (t : Tree) : List UInt8 :=
  let null := sNull f ver t
  if f.kind = 11 then let l := if null then [] else t.L.take 32767; sCounted flex null l.length 4 ++ l.flatMap (sValue part f.of f.sub false flex)
  else if f.kind = 10 && decide (0 ≤ f.null) then (if null then be 1 (-1) else be 1 1 ++ part f.sub t)
  else sValue part f.kind f.sub null flex t
def sKnown : List Fld → Nat
  | [] => 0
  | f :: r => if 0 ≤ f.tag then max (f.tag.toNat + 1) (sKnown r) else sKnown r
/-- A tag into those that are laid by rising numbers, if its number is not there. -/
def sIns (t : Nat × List UInt8) : List (Nat × List UInt8) → List (Nat × List UInt8)
  | [] => [t]
  | u :: r => if u.1 < t.1 then u :: sIns t r else if u.1 = t.1 then u :: r else t :: u :: r
def sUnknown (fs : List Fld) (l : List (Nat × List UInt8)) : List (Nat × List UInt8) :=
  (l.take 32767).foldl (fun out t => if t.1 < sKnown fs then out else sIns t out) []
def sUsualAll (usual : Fld → Tree → Bool) (t : Tree) : List Fld → Nat → Bool
  | [], _ => true
  | f :: r, i => usual f (sAt t i) && sUsualAll usual t r (i + 1)
def sUsual : Nat → Fld → Tree → Bool
  | 0, _, _ => true
  | d + 1, f, t =>
    if f.kind = 0 then decide (t.N % 2 = f.dflt) else if f.kind = 7 then (t.S.take 16).all (· == 0)
    else if f.kind = 8 || f.kind = 9 then (if 0 ≤ f.null then t.nl else t.S.isEmpty)
    else if f.kind = 11 then t.L.isEmpty
    else if f.kind = 10 then sUsualAll (sUsual d) t f.sub 0 && (sUnknown f.sub t.U).isEmpty
    else be (sWidth f.kind) t.N == be (sWidth f.kind) f.dflt
def sWtag (b : List UInt8) (k : Nat) : List UInt8 := uv k ++ (uv b.length ++ b)
def sPlain (fd : Fld → Tree → List UInt8) (ver : Int) (t : Tree) : List Fld → Nat → List UInt8
  | [], _ => []
  | f :: r, i => (if decide (f.tag < 0) && sHas f ver then fd f (sAt t i) else []) ++ sPlain fd ver t r (i + 1)
/-- The tags that the fields have: how many, and their bytes; 'tag' alone. -/
def sTagAt (fd : Fld → Tree → List UInt8) (us : Fld → Tree → Bool) (t : Tree) (tag : Nat) : List Fld → Nat → List (List UInt8)
  | [], _ => []
  | f :: r, i => (if decide (f.tag = tag) && !us f (sAt t i) then [sWtag (fd f (sAt t i)) tag] else []) ++ sTagAt fd us t tag r (i + 1)
def sTags (fd : Fld → Tree → List UInt8) (us : Fld → Tree → Bool) (fs : List Fld) (t : Tree) : List (List UInt8) :=
  ((List.range (sKnown fs)).flatMap fun tag => sTagAt fd us t tag fs 0) ++ (sUnknown fs t.U).map fun u => sWtag (u.2.take 32767) u.1
def sPart : Nat → Int → Bool → List Fld → Tree → List UInt8
  | 0, _, _, _, _ => []
  | d + 1, ver, flex, fs, t =>
    let fd := sField (sPart d ver flex) ver flex
    let out := sPlain fd ver t fs 0
    if flex then let tg := sTags fd (sUsual (d + 1)) fs t; out ++ (uv tg.length ++ tg.flatten) else out
def sDefault : Nat → List Fld → Tree
  | 0, _ => .zero
  | d + 1, fs => .mk 0 [] false (fs.map fun f => .mk f.dflt [] (decide (0 ≤ f.null)) (if f.kind = 10 then (sDefault d f.sub).L else []) []) []
def sWrite (d : Nat) (fs : List Fld) (flex0 : Int) (ver : Int) (t : Tree) : List UInt8 := sPart d ver (decide (0 ≤ flex0) && decide (flex0 ≤ ver)) fs t

/-- How deep fields lie in fields. -/
def deepB : Nat → List Fld → Bool
  | 0, _ => false
  | _ + 1, [] => true
  | d + 1, f :: r => deepB d f.sub && deepB (d + 1) r

/-! ## in memory -/
inductive FRep (w : World) (X : Nat → Prop) : Value → List Fld → Prop where
  | nil : FRep w X (.slice none 0 0) []
  | arr (b n cap : Nat) (t : TypeId) (cur : Array Value) (fs : List Fld) (hb : ¬ X b) (h : w.heap[b]? = some (.cells cur t (0, 0))) (hl : fs.length = n)
      (subs : Nat → Value) (hs : ∀ (i : Nat) (f : Fld), fs[i]? = some f → (cur.toList.drop (i * 8)).take 8 =
        [.int .i64 f.kind, .int .i64 f.from_, .int .i64 f.to, .int .i64 f.null, .int .i64 f.tag, .int .i64 f.dflt, .int .i64 f.of, subs i])
      (hr : ∀ (i : Nat) (f : Fld), fs[i]? = some f → FRep w X (subs i) f.sub) : FRep w X (.slice (some ⟨b, 0, none⟩) n cap) fs

/-- A slice in memory whose things have so many cells each: where the cells of each lie. -/
def Lies (w : World) (X : Nat → Prop) (v : Value) (n sz : Nat) (cells : Nat → List Value) : Prop :=
  ∃ A c, v = .slice A n c ∧ n ≤ c ∧ (A = none → n = 0 ∧ c = 0) ∧ ∀ i, i < n → (cells i).length = sz ∧ ∃ b o, A = some ⟨b, o, none⟩ ∧ ¬ X b ∧ b < w.heap.size ∧
    ∀ (k : Nat) (u : Value), (cells i)[k]? = some u → w.cell? ⟨b, o + i * sz + k, none⟩ = some u

/-- Tags of the reference. -/
def URep (w : World) (X : Nat → Prop) (v : Value) (l : List (Nat × List UInt8)) : Prop :=
  ∃ vals : Nat → Value, Lies w X v l.length 2 (fun i => match l[i]? with | some t => [.int .u32 t.1, vals i] | none => []) ∧
    ∀ (i : Nat) (t : Nat × List UInt8), l[i]? = some t → BytesRep0 w X (vals i) t.2 ∧ t.1 < 4294967296

inductive TRep (w : World) (X : Nat → Prop) : List Value → Tree → Prop where
  | mk (N : Int) (S : List UInt8) (nl : Bool) (L : List Tree) (U : List (Nat × List UInt8)) (sv lv uv' : Value) (cells : Nat → List Value) (hN : IntKind.i64.wrap N = N) (hS : BytesRep0 w X sv S)
      (hL : Lies w X lv L.length 5 cells) (hU : URep w X uv' U) (hr : ∀ (i : Nat) (t : Tree), L[i]? = some t → TRep w X (cells i) t) :
      TRep w X [.int .i64 N, sv, .bool nl, lv, uv'] (.mk N S nl L U)

theorem Lies.keep {w w' : World} {X : Nat → Prop} {v : Value} {n sz : Nat} {cells : Nat → List Value} (h : Lies w X v n sz cells) (k : Keeps X w w') : Lies w' X v n sz cells := by
  obtain ⟨A, c, h1, h2, h3, h4⟩ := h
  refine ⟨A, c, h1, h2, h3, fun i hi => ?_⟩
  obtain ⟨hl, b, o, h5, h6, h7, h8⟩ := h4 i hi
  exact ⟨hl, b, o, h5, h6, Nat.lt_of_lt_of_le h7 k.1, fun q u hq => (k.cell (a := ⟨b, o + i * sz + q, none⟩) h6 h7).trans (h8 q u hq)⟩
theorem URep.keep {w w' : World} {X : Nat → Prop} {v : Value} {l : List (Nat × List UInt8)} (h : URep w X v l) (k : Keeps X w w') : URep w' X v l := by
  obtain ⟨vals, h1, h2⟩ := h
  exact ⟨vals, h1.keep k, fun i t ht => ⟨(h2 i t ht).1.keep k, (h2 i t ht).2⟩⟩
theorem TRep.keep {w w' : World} {X : Nat → Prop} {vs : List Value} {t : Tree} (h : TRep w X vs t) (k : Keeps X w w') : TRep w' X vs t := by
  induction h with
  | mk N S nl L U sv lv uv' cells hN hS hL hU hr ih => exact .mk N S nl L U sv lv uv' cells hN (hS.keep k) (hL.keep k) (hU.keep k) ih
theorem FRep.keep {w w' : World} {X : Nat → Prop} {v : Value} {l : List Fld} (h : FRep w X v l) (k : Keeps X w w') : FRep w' X v l := by
  induction h with
  | nil => exact .nil
  | arr b n cap t cur fs hb h hl subs hs hr ih => exact .arr b n cap t cur fs hb (k.at hb h) hl subs hs ih
theorem TRep.zero (w : World) (X : Nat → Prop) : TRep w X [.int .i64 0, .slice none 0 0, .bool false, .slice none 0 0, .slice none 0 0] .zero := by
  have hl : ∀ (sz : Nat) (cells : Nat → List Value), Lies w X (.slice none 0 0) 0 sz cells := fun sz cells => ⟨none, 0, rfl, Nat.le_refl _, fun _ => ⟨rfl, rfl⟩, fun i hi => absurd hi (by omega)⟩
  exact .mk 0 [] false [] [] _ _ _ (fun _ => []) rfl (.inl ⟨⟨_, rfl⟩, rfl⟩) (hl 5 _) ⟨fun _ => undef, hl 2 _, fun i t h => by simp at h⟩ (fun i t h => by simp at h)
end Go.Proofs.Eng
