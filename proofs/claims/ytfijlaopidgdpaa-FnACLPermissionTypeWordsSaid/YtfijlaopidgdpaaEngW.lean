/-
  The checked executor of writing: what it is, when a table fits a program.
-/
import Derived.Test.YtfijlaopidgdpaaEngRep
namespace Go.Proofs.Eng
open Go Go.RowKit

/-- What is known of a slot. 'ptr j off': the address of cell off of level j; 'fld': what was loaded there. -/
inductive AV where
  | cst (v : Value)
  | ptr (j off : Nat)
  | fld (j off n : Nat) (ag : Bool)
  | fldc (j off : Nat) (k : IntKind)
  | dst
  | len (j off : Nat)
  | isn (j off : Nat)
  | tagl (j off : Nat)
  | tagu (j off : Nat)
  | idx (j off : Nat)

abbrev Sg := List (Nat × AV)

def look {α : Type} : List (Nat × α) → Nat → Option α
  | [], _ => none
  | (m, x) :: r, n => if Nat.beq m n then some x else look r n

theorem look_mem {α : Type} {l : List (Nat × α)} {n : Nat} {x : α} (h : look l n = some x) : (n, x) ∈ l := by
  induction l with
  | nil => simp [look] at h
  | cons p r ih =>
    obtain ⟨m, y⟩ := p
    simp only [look] at h
    split at h
    · rename_i hb
      have := Nat.eq_of_beq_eq_true hb
      subst this
      cases h
      exact List.mem_cons_self
    · exact List.mem_cons_of_mem _ (ih h)

def has : List Nat → Nat → Bool
  | [], _ => false
  | m :: r, n => Nat.beq m n || has r n
theorem has_iff {l : List Nat} {n : Nat} : has l n = true ↔ n ∈ l := by
  induction l with
  | nil => simp [has]
  | cons m r ih =>
    simp only [has, Bool.or_eq_true, ih, Nat.beq_eq, List.mem_cons]
    exact ⟨fun h => h.imp Eq.symm id, fun h => h.imp Eq.symm id⟩

structure Tab where
  structs : List (Nat × List Nat)
  sizes : List (Nat × (Nat × Bool))
  slices : List (Nat × Nat)
  ints : List Nat
  convs : List (Nat × IntKind)
  boxes : List Nat
  wf : List (Nat × WPrim)
  lf : List (Nat × LPrim)
  fU : Nat
  fTL : Nat
  fTE : Nat
  tB : Nat
  only0 : Bool

def Tab.off (T : Tab) (s f : Nat) : Option Nat := match look T.structs s with
  | some l => l[f]?
  | none => none

def av (σ : Sg) : Operand → Option AV
  | .tmp t => look σ t
  | .const v => some (.cst v)
  | _ => none

def cmp (op : BinOp) (a b : Int) : Option Bool := match op with
  | .eql => some (a == b)
  | .neq => some (a != b)
  | .lss => some (decide (a < b))
  | .leq => some (decide (a ≤ b))
  | .gtr => some (decide (a > b))
  | .geq => some (decide (a ≥ b))
  | _ => none

def ikeq : IntKind → IntKind → Bool
  | .i8, .i8 | .i16, .i16 | .i32, .i32 | .i64, .i64 | .u8, .u8 | .u16, .u16 | .u32, .u32 | .u64, .u64 => true
  | _, _ => false
theorem ikeq_eq {a b : IntKind} (h : ikeq a b = true) : a = b := by cases a <;> cases b <;> first | rfl | simp [ikeq] at h

def kAt (shs : List (List K)) (j o : Nat) : Option K := match shs[j]? with
  | some sh => sh[o]?
  | none => none
def isLast (shs : List (List K)) (j : Nat) : Bool := Nat.beq (j + 1) shs.length
def okAt (p : WPrim) (shs : List (List K)) (j o n : Nat) : Bool := match shs[j]? with
  | some sh => okP p ((sh.drop o).take n)
  | none => false
def okI (p : WPrim) : Option K → Bool
  | some (.int k) => okP p [.int k]
  | _ => false

/-- An operation that reads and computes alone. 'kn': the cells of level 0 that are known; 'shs': the kinds of the cells of each level. -/
def pop (T : Tab) (kn : List (Option Value)) (shs : List (List K)) (σ : Sg) : Op → Option AV
  | .move x => av σ x
  | .assign x => av σ x
  | .pick c x y => match av σ c with
    | some (.cst (.bool true)) => av σ x
    | some (.cst (.bool false)) => av σ y
    | _ => none
  | .unOp .not _ x => match av σ x with
    | some (.cst (.bool b)) => some (.cst (.bool !b))
    | _ => none
  | .nilCheck x => match av σ x with
    | some (.ptr j o) => some (.ptr j o)
    | _ => none
  | .fieldAddr s x f => match av σ x, T.off s f with
    | some (.ptr j o), some fo => some (.ptr j (o + fo))
    | _, _ => none
  | .load t x => match av σ x, look T.sizes t with
    | some (.ptr j o), some (n, ag) =>
      match shs[j]? with
      | some sh => if Nat.ble (o + n) sh.length then
          match (if Nat.beq j 0 && !ag then kn[o]? else none) with
          | some (some v) => if Nat.beq n 1 then some (.cst v) else none
          | _ => some (.fld j o n ag)
        else none
      | none => none
    | _, _ => none
  | .binOp op t x y _ => match av σ x, av σ y with
    | some (.cst (.int k a)), some (.cst (.int k' b)) => if ikeq k k' then (cmp op a b).map (fun r => .cst (.bool r)) else none
    | some (.fld j o _ false), some (.cst (.slice none 0 0)) => match op, look T.slices t, kAt shs j o with
      | .eql, some _, some (.arr _) => some (.isn j o)
      | _, _, _ => none
    | some (.cst (.slice none 0 0)), some (.cst (.slice none 0 0)) => match op, look T.slices t with
      | .eql, some _ => some (.cst (.bool true))
      | .neq, some _ => some (.cst (.bool false))
      | _, _ => none
    | some (.cst (.int .u32 0)), some (.tagu j o) => match op with
      | .add => some (.tagu j o)
      | _ => none
    | some (.cst (.int .i64 0)), some (.tagl j o) => match op with
      | .add => some (.tagl j o)
      | _ => none
    | _, _ => none
  | .convert s t x => match av σ x, look T.convs s, look T.convs t with
    | some (.tagl j o), some .i64, some .u32 => some (.tagu j o)
    | some (.fld j o 1 false), some _, some k' => match kAt shs j o with
      | some (.int _) => some (.fldc j o k')
      | _ => none
    | some (.cst (.int _ n)), some _, some k => some (.cst (.int k (k.wrap n)))
    | _, _, _ => none
  | .call c => match c.callee, c.args.toList, c.argTypes.toList with
    | .builtin .len, [x], [t] => match av σ x, look T.slices t with
      | some (.fld j o _ false), some _ => match kAt shs j o with
        | some (.arr _) => some (.len j o)
        | _ => none
      | some (.cst (.slice none 0 0)), some _ => some (.cst (.int .i64 0))
      | _, _ => none
    | _, _, _ => none
  | .indexAddr t x i => match av σ x, av σ i, look T.slices t, shs.getLast? with
    | some (.fld j o _ false), some (.idx j' o'), some esz, some sh => if Nat.beq (j + 2) shs.length && Nat.beq esz sh.length && Nat.beq j' j && Nat.beq o' o then some (.ptr (j + 1) 0) else none
    | _, _, _, _ => none
  | _ => none

def notDst : AV → Bool
  | .dst => false
  | _ => true
def noDst (σ : Sg) : Sg := σ.filter fun p => notDst p.2
def sput (σ : Sg) : Option Nat → AV → Sg
  | some d, x => (d, x) :: σ.filter fun p => !Nat.beq p.1 d
  | none, _ => σ
def sdel (σ : Sg) : Option Nat → Sg
  | some d => σ.filter fun p => !Nat.beq p.1 d
  | none => σ

def wrO (ops : List Oper) : List Nat := ops.filterMap (·.dst)
def wrC : Code → List Nat
  | .region _ ops _ => wrO ops.toList
  | .seq a b => wrC a ++ wrC b
  | .cond _ a b => wrC a ++ wrC b
  | .block _ a => wrC a
  | .loop a => wrC a
  | .scope a => wrC a
  | .rangeFunc _ _ a b => wrC a ++ wrC b
  | _ => []
def wrT : List TD → List Nat
  | [] => []
  | .ops _ l :: k => wrO l ++ wrT k
  | .code c :: k => wrC c ++ wrT k

/-- What is written of a value that is known. -/
def cvOf (p : WPrim) : Value → Option CV
  | .int k n => match p with
    | .i8 | .i16 | .u16 | .i32 | .i64 => if decide (k.wrap n = n) && okP p [.int k] then some (.int k n) else none
    | _ => none
  | .bool b => match p with | .bool => some (.bool b) | _ => none
  | .float .f64 n => match p with | .f64 => if Nat.ble (n + 1) 18446744073709551616 then some (.flt n) else none | _ => none
  | .string s => match p with | .str | .cstr => some (.str s.data.toList) | _ => none
  | .pointer none => match p with | .nstr | .cnstr => some (.pstr none) | _ => none
  | .slice none 0 0 => match p with | .byt | .cbyt | .nbyt | .cnbyt => some (.bytes none) | _ => none
  | _ => none
def kOf : CV → K
  | .int k _ => .int k
  | .bool _ => .bool
  | .flt _ => .flt
  | .str _ => .str
  | .pstr _ => .pstr
  | .bytes _ => .bytes
  | _ => .pst

def width : WPrim → Nat
  | .uuid => 16
  | _ => 1

/-- What a call writes: the program's word for it. -/
inductive WA where
  | lit (b : List UInt8)
  | prim (p : WPrim) (off : Nat)
  | alen (p : LPrim) (off : Nat)
  | tagn (off : Nat)
  | tage (off : Nat)

def lenW (shs : List (List K)) (p : LPrim) : Option AV → Option WA
  | some (.len j o) => if plainL p && isLast shs j then some (.alen p o) else none
  | some (.cst (.int .i64 0)) => if plainL p then some (.lit (wlen p true 0)) else none
  | _ => none
def lenW2 (shs : List (List K)) (p : LPrim) : Option AV → Option AV → Option WA
  | some (.len j o), some (.isn j' o') => if !plainL p && isLast shs j && Nat.beq j' j && Nat.beq o' o then some (.alen p o) else none
  | some (.cst (.int .i64 0)), some (.cst (.bool b)) => if !plainL p then some (.lit (wlen p b 0)) else none
  | _, _ => none
def callW (T : Tab) (shs : List (List K)) (σ : Sg) (f : Nat) (args : List Operand) : Option WA :=
  if Nat.beq f T.fTE then
    match args with
    | [x, y] => match av σ x, av σ y with
      | some (.ptr j o), some .dst => match kAt shs j o with
        | some (.tags e) => if isLast shs j && (!T.only0 || e) then some (.tage o) else none
        | _ => none
      | _, _ => none
    | _ => none
  else match args with
  | [x, y] => match av σ x with
    | some .dst =>
      if Nat.beq f T.fU then match av σ y with
        | some (.tagu j o) => if isLast shs j then some (.tagn o) else none
        | some (.cst (.int .u32 n)) => if decide (0 ≤ n) && decide (n < 4294967296) then some (.lit (uv n.toNat)) else none
        | _ => none
      else match look T.wf f with
      | some p => match av σ y with
        | some (.fld j o n ag) => if isLast shs j && Nat.beq n (width p) && okAt p shs j o n && (ag == isU p) then some (.prim p o) else none
        | some (.fldc j o k) => if isLast shs j && okP p [.int k] && okI p (kAt shs j o) then some (.prim p o) else none
        | some (.cst v) => (cvOf p v).map fun c => .lit (wprim p [c])
        | _ => none
      | none => match look T.lf f with
        | some p => lenW shs p (av σ y)
        | none => none
    | _ => none
  | [x, y, z] => match av σ x, look T.lf f with
    | some .dst, some p => lenW2 shs p (av σ y) (av σ z)
    | _, _ => none
  | _ => none
end Go.Proofs.Eng
