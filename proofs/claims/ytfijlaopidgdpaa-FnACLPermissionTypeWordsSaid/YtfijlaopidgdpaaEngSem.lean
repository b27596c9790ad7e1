/-
  Words for what is written of messages: numbers, counts, texts as lists of bytes; the contents of cells; programs of writing.
-/
import Derived.WalkKit
namespace Go.Proofs.Eng
open Go

/-- The k lowest octets of a number, the highest one first. -/
def be : Nat → Int → List UInt8
  | 0, _ => []
  | k + 1, n => UInt8.ofNat ((n / (256 : Int) ^ k) % 256).toNat :: be k n

/-- A number in groups of seven bits, the lowest first. -/
def uvF : Nat → Nat → List UInt8
  | 0, n => [UInt8.ofNat n]
  | f + 1, n => if n < 128 then [UInt8.ofNat n] else UInt8.ofNat (n % 128 + 128) :: uvF f (n / 128)
def uv (n : Nat) : List UInt8 := uvF 9 n

/-- A byte as a value. -/
def bv (b : UInt8) : Value := .int .u8 b.toNat

/-- What a cell says. -/
inductive CV where
  | int (k : IntKind) (n : Int)
  | bool (b : Bool)
  | flt (bits : Nat)
  | str (s : List UInt8)
  | pstr (o : Option (List UInt8))
  | bytes (o : Option (List UInt8))
  | tags (l : List (Nat × List UInt8))
  | arr (isNil : Bool) (n : Nat) (cs : List CV)
  | pst (o : Option (List CV))

/-- What is written of a cell (Uuid: of sixteen cells). -/
inductive WPrim where
  | bool | i8 | i16 | u16 | i32 | i64 | f64 | uuid | str | cstr | nstr | cnstr | byt | cbyt | nbyt | cnbyt
  deriving DecidableEq

/-- The forms of a list's count. -/
inductive LPrim where
  | al | cal | nal | cnal
  deriving DecidableEq

def cbytes (s : List UInt8) : List UInt8 := uv ((1 + s.length) % 4294967296) ++ s

def uuidOf : List CV → List UInt8
  | .int _ n :: r => UInt8.ofNat (n % 256).toNat :: uuidOf r
  | _ => []

def wprim : WPrim → List CV → List UInt8
  | .bool, .bool b :: _ => [if b then 1 else 0]
  | .i8, .int _ n :: _ => be 1 n
  | .i16, .int _ n :: _ => be 2 n
  | .u16, .int _ n :: _ => be 2 n
  | .i32, .int _ n :: _ => be 4 n
  | .i64, .int _ n :: _ => be 8 n
  | .f64, .flt n :: _ => be 8 n
  | .uuid, cs => uuidOf (cs.take 16)
  | .str, .str s :: _ => be 2 s.length ++ s
  | .cstr, .str s :: _ => cbytes s
  | .nstr, .pstr (some s) :: _ => be 2 s.length ++ s
  | .nstr, .pstr none :: _ => be 2 (-1)
  | .cnstr, .pstr (some s) :: _ => cbytes s
  | .cnstr, .pstr none :: _ => uv 0
  | .byt, .bytes (some s) :: _ => be 4 s.length ++ s
  | .byt, .bytes none :: _ => be 4 0
  | .cbyt, .bytes (some s) :: _ => cbytes s
  | .cbyt, .bytes none :: _ => cbytes []
  | .nbyt, .bytes (some s) :: _ => be 4 s.length ++ s
  | .nbyt, .bytes none :: _ => be 4 (-1)
  | .cnbyt, .bytes (some s) :: _ => cbytes s
  | .cnbyt, .bytes none :: _ => uv 0
  | _, _ => []

def wlen : LPrim → Bool → Nat → List UInt8
  | .al, _, n => be 4 n
  | .cal, _, n => uv ((1 + n) % 4294967296)
  | .nal, true, _ => be 4 (-1)
  | .nal, false, n => be 4 n
  | .cnal, true, _ => uv 0
  | .cnal, false, n => uv ((1 + n) % 4294967296)

def wtag (t : Nat × List UInt8) : List UInt8 := uv t.1 ++ (uv (t.2.length % 4294967296) ++ t.2)

/-- A program of writing. 'lit': bytes that are known; 'alen', 'loop': a list's count, its things; 'tagn', 'tage': how many tags, the tags. -/
inductive WP where
  | nil
  | lit (b : List UInt8) (k : WP)
  | prim (p : WPrim) (off : Nat) (k : WP)
  | alen (p : LPrim) (off : Nat) (k : WP)
  | loop (off esz : Nat) (body : WP) (k : WP)
  | tagn (off : Nat) (k : WP)
  | tage (off : Nat) (k : WP)

def elem (cs : List CV) (esz i : Nat) : List CV := (cs.drop (i * esz)).take esz

def walen (p : LPrim) : Option CV → List UInt8
  | some (.arr nl n _) => wlen p nl n
  | _ => []
def wtagn : Option CV → List UInt8
  | some (.tags l) => uv (l.length % 4294967296)
  | _ => []
def wtage : Option CV → List UInt8
  | some (.tags l) => l.flatMap wtag
  | _ => []

def runW : WP → List CV → List UInt8
  | .nil, _ => []
  | .lit b k, cs => b ++ runW k cs
  | .prim p off k, cs => wprim p (cs.drop off) ++ runW k cs
  | .alen p off k, cs => walen p cs[off]? ++ runW k cs
  | .loop off esz body k, cs =>
    (match cs[off]? with
     | some (.arr _ n es) => (List.range n).flatMap fun i => runW body (elem es esz i)
     | _ => []) ++ runW k cs
  | .tagn off k, cs => wtagn cs[off]? ++ runW k cs
  | .tage off k, cs => wtage cs[off]? ++ runW k cs

theorem be_length (k : Nat) (n : Int) : (be k n).length = k := by
  induction k with
  | zero => rfl
  | succ k ih => simp [be, ih]
theorem uvF_length (f n : Nat) : (uvF f n).length ≤ f + 1 := by
  induction f generalizing n with
  | zero => simp [uvF]
  | succ f ih => simp only [uvF]; split <;> simp <;> have := ih (n / 128) <;> omega
theorem uv_length (n : Nat) : (uv n).length ≤ 10 := uvF_length 9 n

end Go.Proofs.Eng
