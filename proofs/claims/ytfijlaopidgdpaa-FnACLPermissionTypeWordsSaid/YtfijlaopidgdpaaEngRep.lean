/-
  What cells say, in memory: kinds of cells, contents that fit a kind, values that bear contents.
-/
import Derived.Test.YtfijlaopidgdpaaEngBase
namespace Go.Proofs.Eng
open Go Go.RowKit

inductive K where
  | int (k : IntKind)
  | bool
  | flt
  | str
  | pstr
  | bytes
  | tags (e : Bool)
  | arr (sh : List K)
  | pst

inductive Conf : K → CV → Prop where
  | int (k : IntKind) (n : Int) (h : k.wrap n = n) : Conf (.int k) (.int k n)
  | bool (b : Bool) : Conf .bool (.bool b)
  | flt (b : Nat) (h : b < 18446744073709551616) : Conf .flt (.flt b)
  | str (s : List UInt8) : Conf .str (.str s)
  | pstr (o : Option (List UInt8)) : Conf .pstr (.pstr o)
  | bytes (o : Option (List UInt8)) : Conf .bytes (.bytes o)
  | tags (e : Bool) (l : List (Nat × List UInt8)) (h : l.Pairwise (fun a b => a.1 < b.1)) (h2 : ∀ t ∈ l, t.1 < 4294967296) (h3 : l.length < 2147483648) (h4 : e = true → l = []) : Conf (.tags e) (.tags l)
  | arr (sh : List K) (nl : Bool) (n : Nat) (es : List CV) (hl : es.length = n * sh.length) (hn : nl = true → n = 0) (hn2 : n < 2147483648)
      (h : ∀ (i : Nat) (c : CV) (kk : K), es[i]? = some c → sh[i % sh.length]? = some kk → Conf kk c) : Conf (.arr sh) (.arr nl n es)

def ConfL (ks : List K) (cs : List CV) : Prop := cs.length = ks.length ∧ ∀ (i : Nat) (c : CV) (kk : K), cs[i]? = some c → ks[i]? = some kk → Conf kk c

/-- A slice of bytes in memory, off the blocks X. -/
def BytesRep (w : World) (X : Nat → Prop) (v : Value) (bs : List UInt8) : Prop :=
  ∃ b o n c, v = .slice (some ⟨b, o, none⟩) n c ∧ ¬ X b ∧ b < w.heap.size ∧ bs.length = n ∧ n ≤ c ∧ ∀ (i : Nat) (x : UInt8), bs[i]? = some x → w.cell? ⟨b, o + i, none⟩ = some (bv x)

def BytesRep0 (w : World) (X : Nat → Prop) (v : Value) (bs : List UInt8) : Prop :=
  (v = .slice none 0 0 ∧ bs = []) ∨ BytesRep w X v bs

/-- A map of tags in memory. -/
def TagsRep (w : World) (X : Nat → Prop) (ents : Array MapEntry) (l : List (Nat × List UInt8)) : Prop :=
  ∃ m : List (Nat × List UInt8), m.length = ents.size ∧ m.Perm l ∧
    ∀ (i : Nat) (e : MapEntry), ents[i]? = some e → ∃ (k : Nat) (bs : List UInt8), m[i]? = some (k, bs) ∧ e.key = .int .u32 k ∧ BytesRep0 w X e.val bs

inductive Rep (w : World) (X : Nat → Prop) : Value → CV → Prop where
  | int (k : IntKind) (n : Int) : Rep w X (.int k n) (.int k n)
  | bool (b : Bool) : Rep w X (.bool b) (.bool b)
  | flt (b : Nat) : Rep w X (.float .f64 b) (.flt b)
  | str (s : ByteArray) : Rep w X (.string s) (.str s.data.toList)
  | pnil : Rep w X (.pointer none) (.pstr none)
  | pstr (b : Nat) (s : ByteArray) (t : TypeId) (hb : ¬ X b) (h : w.heap[b]? = some (.cells #[.string s] t (0, 0))) :
      Rep w X (.pointer (some ⟨b, 0, none⟩)) (.pstr (some s.data.toList))
  | bnil : Rep w X (.slice none 0 0) (.bytes none)
  | bytes (v : Value) (bs : List UInt8) (h : BytesRep w X v bs) : Rep w X v (.bytes (some bs))
  | tnil : Rep w X (.map none) (.tags [])
  | tags (r : Nat) (ents : Array MapEntry) (clock : Nat) (l : List (Nat × List UInt8)) (hb : ¬ X r) (h : w.heap[r]? = some (.map ents clock))
      (ht : TagsRep w X ents l) : Rep w X (.map (some r)) (.tags l)
  | anil : Rep w X (.slice none 0 0) (.arr true 0 [])
  | arr (b n cap : Nat) (t : TypeId) (cur : Array Value) (cs : List CV) (hb : ¬ X b) (h : w.heap[b]? = some (.cells cur t (0, 0))) (hl : cs.length ≤ cur.size) (hc : n ≤ cap)
      (hr : ∀ (i : Nat) (v : Value) (c : CV), cur[i]? = some v → cs[i]? = some c → Rep w X v c) : Rep w X (.slice (some ⟨b, 0, none⟩) n cap) (.arr false n cs)
  | psnil : Rep w X (.pointer none) (.pst none)

/-- Memory is kept off X. -/
def Keeps (X : Nat → Prop) (w w' : World) : Prop := w.heap.size ≤ w'.heap.size ∧ ∀ b, b < w.heap.size → ¬ X b → w'.heap[b]? = w.heap[b]?

theorem Keeps.refl (X : Nat → Prop) (w : World) : Keeps X w w := ⟨Nat.le_refl _, fun _ _ _ => rfl⟩
theorem Keeps.trans {X : Nat → Prop} {w w1 w2 : World} (h : Keeps X w w1) (h' : Keeps X w1 w2) : Keeps X w w2 :=
  ⟨Nat.le_trans h.1 h'.1, fun b hb hx => (h'.2 b (Nat.lt_of_lt_of_le hb h.1) hx).trans (h.2 b hb hx)⟩
theorem lt_of_some {w : World} {b : Nat} {o : Obj} (h : w.heap[b]? = some o) : b < w.heap.size := (Array.getElem?_eq_some_iff.1 h).1
theorem Keeps.at {X : Nat → Prop} {w w' : World} (h : Keeps X w w') {b : Nat} {o : Obj} (hb : ¬ X b) (ho : w.heap[b]? = some o) : w'.heap[b]? = some o :=
  (h.2 b (lt_of_some ho) hb).trans ho
theorem Keeps.cell {X : Nat → Prop} {w w' : World} (h : Keeps X w w') {a : Addr} (hb : ¬ X a.block) (hl : a.block < w.heap.size) : w'.cell? a = w.cell? a :=
  World.cell?_of_block (h.2 a.block hl hb)
theorem Keeps.mono {X Y : Nat → Prop} {w w' : World} (h : Keeps Y w w') (hx : ∀ b, Y b → X b) : Keeps X w w' := ⟨h.1, fun b hb hX => h.2 b hb (fun hy => hX (hx b hy))⟩
theorem Keeps.of_below {B : Nat} {w w' : World} (h : Below B w w') : Keeps (fun b => B ≤ b) w w' := ⟨h.size, fun b _ hb => h.block b (by omega)⟩

theorem BytesRep.keep {X : Nat → Prop} {w w' : World} {v : Value} {bs : List UInt8} (h : BytesRep w X v bs) (k : Keeps X w w') : BytesRep w' X v bs := by
  obtain ⟨b, o, n, c, rfl, hx, hb, hl, hc, hcell⟩ := h
  exact ⟨b, o, n, c, rfl, hx, Nat.lt_of_lt_of_le hb k.1, hl, hc, fun i x hi => (k.cell (a := ⟨b, o + i, none⟩) hx hb).trans (hcell i x hi)⟩
theorem BytesRep.mono {X Y : Nat → Prop} {w : World} {v : Value} {bs : List UInt8} (h : BytesRep w X v bs) (hy : ∀ b, b < w.heap.size → Y b → X b) : BytesRep w Y v bs := by
  obtain ⟨b, o, n, c, rfl, hx, hb, hl, hc, hcell⟩ := h
  exact ⟨b, o, n, c, rfl, fun hY => hx (hy b hb hY), hb, hl, hc, hcell⟩
theorem BytesRep0.keep {X : Nat → Prop} {w w' : World} {v : Value} {bs : List UInt8} (h : BytesRep0 w X v bs) (k : Keeps X w w') : BytesRep0 w' X v bs := h.imp id (·.keep k)
theorem BytesRep0.mono {X Y : Nat → Prop} {w : World} {v : Value} {bs : List UInt8} (h : BytesRep0 w X v bs) (hy : ∀ b, b < w.heap.size → Y b → X b) : BytesRep0 w Y v bs := h.imp id (·.mono hy)
theorem TagsRep.keep {X : Nat → Prop} {w w' : World} {e : Array MapEntry} {l : List (Nat × List UInt8)} (h : TagsRep w X e l) (k : Keeps X w w') : TagsRep w' X e l := by
  obtain ⟨m, h1, h2, h3⟩ := h
  exact ⟨m, h1, h2, fun i e he => by obtain ⟨kk, bs, a1, a2, a3⟩ := h3 i e he; exact ⟨kk, bs, a1, a2, a3.keep k⟩⟩
theorem TagsRep.mono {X Y : Nat → Prop} {w : World} {e : Array MapEntry} {l : List (Nat × List UInt8)} (h : TagsRep w X e l) (hy : ∀ b, b < w.heap.size → Y b → X b) : TagsRep w Y e l := by
  obtain ⟨m, h1, h2, h3⟩ := h
  exact ⟨m, h1, h2, fun i e he => by obtain ⟨kk, bs, a1, a2, a3⟩ := h3 i e he; exact ⟨kk, bs, a1, a2, a3.mono hy⟩⟩

theorem Rep.keep {X : Nat → Prop} {w w' : World} {v : Value} {c : CV} (h : Rep w X v c) (k : Keeps X w w') : Rep w' X v c := by
  induction h with
  | int => exact .int ..
  | bool => exact .bool ..
  | flt => exact .flt ..
  | str => exact .str ..
  | pnil => exact .pnil
  | pstr b s t hb h => exact .pstr b s t hb (k.at hb h)
  | bnil => exact .bnil
  | bytes v bs h => exact .bytes v bs (h.keep k)
  | tnil => exact .tnil
  | tags r e cl l hb h ht => exact .tags r e cl l hb (k.at hb h) (ht.keep k)
  | anil => exact .anil
  | arr b n cap t cur cs hb h hl hc hr ih => exact .arr b n cap t cur cs hb (k.at hb h) hl hc ih
  | psnil => exact .psnil
theorem Rep.mono {X Y : Nat → Prop} {w : World} {v : Value} {c : CV} (h : Rep w X v c) (hy : ∀ b, b < w.heap.size → Y b → X b) : Rep w Y v c := by
  induction h with
  | int => exact .int ..
  | bool => exact .bool ..
  | flt => exact .flt ..
  | str => exact .str ..
  | pnil => exact .pnil
  | pstr b s t hb h => exact .pstr b s t (fun hY => hb (hy b (lt_of_some h) hY)) h
  | bnil => exact .bnil
  | bytes v bs h => exact .bytes v bs (h.mono hy)
  | tnil => exact .tnil
  | tags r e cl l hb h ht => exact .tags r e cl l (fun hY => hb (hy r (lt_of_some h) hY)) h (ht.mono hy)
  | anil => exact .anil
  | arr b n cap t cur cs hb h hl hc hr ih => exact .arr b n cap t cur cs (fun hY => hb (hy b (lt_of_some h) hY)) h hl hc ih
  | psnil => exact .psnil

theorem Rep.oneCell {X : Nat → Prop} {w : World} {v : Value} {c : CV} (h : Rep w X v c) : v.oneCell' = true := by
  cases h <;> first | rfl | (rename_i h; obtain ⟨b, o, n, c, rfl, _⟩ := h; rfl)

/-- A value of several cells, or of one. -/
def RepV (w : World) (X : Nat → Prop) : Bool → Value → List CV → Prop
  | false, v, cs => ∃ c, cs = [c] ∧ Rep w X v c
  | true, v, cs => ∃ vs : List Value, v = .agg vs.toArray ∧ vs.length = cs.length ∧ ∀ (i : Nat) (u : Value) (c : CV), vs[i]? = some u → cs[i]? = some c → Rep w X u c

def isU : WPrim → Bool
  | .uuid => true
  | _ => false

/-- The bytes that a slice of the call's own holds. -/
def Own (w : World) (base tB : Nat) (d : Value) (bs : List UInt8) : Prop := w.ownsRow base tB 1 d bs.length (bs.map bv)

def okP : WPrim → List K → Bool
  | .bool, [.bool] => true
  | .i8, [.int .i8] => true
  | .i16, [.int .i16] => true
  | .u16, [.int .u16] => true
  | .i32, [.int .i32] => true
  | .i64, [.int .i64] => true
  | .f64, [.flt] => true
  | .uuid, ks => ks.length == 16 && ks.all (fun k => match k with | .int .u8 => true | _ => false)
  | .str, [.str] => true
  | .cstr, [.str] => true
  | .nstr, [.pstr] => true
  | .cnstr, [.pstr] => true
  | .byt, [.bytes] => true
  | .cbyt, [.bytes] => true
  | .nbyt, [.bytes] => true
  | .cnbyt, [.bytes] => true
  | _, _ => false

/-- The bound of what is written. -/
def lim : Nat := 1099511627776
theorem lim_eq : lim = 1099511627776 := rfl

/-- What a function that appends is said to do. -/
def WContract (P : Program) (tB : Nat) (f : FuncId) (p : WPrim) : Prop :=
  ∀ (w : World) (base : Nat) (d v : Value) (bs : List UInt8) (ks : List K) (cs : List CV),
    Own w base tB d bs → RepV w (fun b => base ≤ b) (isU p) v cs → okP p ks = true → ConfL ks cs → base ≤ w.heap.size → bs.length + (wprim p cs).length ≤ lim →
    Calls P f #[d, v] w fun e w' => ∃ d', e = .returned d' ∧ Own w' base tB d' (bs ++ wprim p cs) ∧ Below base w w'

def plainL : LPrim → Bool
  | .al | .cal => true
  | _ => false
def LContract (P : Program) (tB : Nat) (f : FuncId) (p : LPrim) : Prop :=
  ∀ (w : World) (base : Nat) (d : Value) (bs : List UInt8) (n : Nat) (nl : Bool), Own w base tB d bs → base ≤ w.heap.size → n < 2147483648 → bs.length + (wlen p nl n).length ≤ lim →
    Calls P f (if plainL p then #[d, .int .i64 n] else #[d, .int .i64 n, .bool nl]) w
      fun e w' => ∃ d', e = .returned d' ∧ Own w' base tB d' (bs ++ wlen p nl n) ∧ Below base w w'

def UContract (P : Program) (tB : Nat) (f : FuncId) : Prop :=
  ∀ (w : World) (base : Nat) (d : Value) (bs : List UInt8) (n : Nat), Own w base tB d bs → base ≤ w.heap.size → n < 4294967296 → bs.length + (uv n).length ≤ lim →
    Calls P f #[d, .int .u32 n] w fun e w' => ∃ d', e = .returned d' ∧ Own w' base tB d' (bs ++ uv n) ∧ Below base w w'

def TLContract (P : Program) (f : FuncId) : Prop :=
  ∀ (w : World) (X : Nat → Prop) (b o : Nat) (v : Value) (l : List (Nat × List UInt8)), w.cell? ⟨b, o, none⟩ = some v → Rep w X v (.tags l) → l.length < 4294967296 →
    Calls P f #[.pointer (some ⟨b, o, none⟩)] w fun e w' => e = .returned (.int .i64 l.length) ∧ w' = w

def TEContract (P : Program) (tB : Nat) (f : FuncId) (only0 : Bool) : Prop :=
  ∀ (w : World) (base b o : Nat) (d v : Value) (bs : List UInt8) (l : List (Nat × List UInt8)), Own w base tB d bs → base ≤ w.heap.size → b < base → w.cell? ⟨b, o, none⟩ = some v →
    Rep w (fun b => base ≤ b) v (.tags l) → Conf (.tags only0) (.tags l) → bs.length + (l.flatMap wtag).length ≤ lim →
    Calls P f #[.pointer (some ⟨b, o, none⟩), d] w fun e w' => ∃ d', e = .returned d' ∧ Own w' base tB d' (bs ++ l.flatMap wtag) ∧ Below base w w'
end Go.Proofs.Eng
