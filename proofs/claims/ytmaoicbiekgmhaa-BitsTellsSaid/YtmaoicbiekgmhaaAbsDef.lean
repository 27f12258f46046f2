import Derived.Orders
import Derived.Laws.Entries
import Derived.Laws.AppendOwn
import Derived.Laws.AppendOwnNone
import Derived.Below
namespace Go.Abs
open Go

/-! ### Values -/
/-- What a row of elements holds. -/
inductive Cont where
  | ints (k : IntKind) (l : List Int)
  | rows (k : IntKind) (l : List (List Int))
  | rows2 (k : IntKind) (l : List (List (List Int)))
  | cols (n : Nat) (cs : List Cont)

inductive AVal where
  | v (x : Value)
  | bot
  | sl (c : Cont)
  | own (id : Nat)
  | win (id : Nat) (off len : Nat)
  | awin (id off m lo len : Nat)
  | arr (k : IntKind) (n : Nat) (l : List Int)
  | agg (l : List AVal)
  | ptr (id off : Nat)
  | pel (id sz i : Nat)
  | apel (id off m i : Nat)
  | sta (l : List AVal)
  | fn (f : Fn) (first caps : List AVal)
  | iface (t : TypeId) (x : AVal)
  | tuple (l : List AVal)
  | fr (e : TypeId) (c : Cont)
  | glob (g off : Nat)
  | gel (g off m i : Nat)

inductive Bk where
  | row (e : TypeId) (c : Cont)
  | box (e : TypeId) (l : List AVal)

structure Blk where
  b : Bk
  frz : Bool

/-- A choice in the run: never unfolded by the printing tool. -/
@[irreducible] def br {α : Type} (b : Bool) (x y : α) : α := cond b x y

mutual
def mentions (id : Nat) : AVal → Bool
  | .own j | .win j _ _ | .awin j _ _ _ _ | .ptr j _ | .pel j _ _ | .apel j _ _ _ => Nat.beq id j
  | .agg l | .sta l | .tuple l => mentionsL id l
  | .fn _ a b => mentionsL id a || mentionsL id b
  | .iface _ x => mentions id x
  | _ => false
def mentionsL (id : Nat) : List AVal → Bool
  | [] => false
  | a :: r => mentions id a || mentionsL id r
end

def lcat {α : Type} : List α → List α → List α
  | [], l => l
  | a :: r, l => a :: lcat r l

mutual
/-- the ids of own rows inside a value -/
def rowIds : AVal → List Nat
  | .own j | .win j _ _ | .awin j _ _ _ _ => [j]
  | .agg l | .tuple l => rowIdsL l
  | .fn _ a b => lcat (rowIdsL a) (rowIdsL b)
  | .iface _ x => rowIds x
  | _ => []
def rowIdsL : List AVal → List Nat
  | [] => []
  | a :: r => lcat (rowIds a) (rowIdsL r)
end

abbrev Hp := List (Nat × Option Blk)

def look : List (Nat × AVal) → Nat → AVal
  | [], _ => .bot
  | (k, a) :: r, t => bif Nat.beq k t then a else look r t

def hlook : Hp → Nat → Option Blk
  | [], _ => none
  | (k, b) :: r, t => bif Nat.beq k t then b else hlook r t

structure ASt where
  f : List (Nat × AVal)
  h : Hp
  n : Nat
  m : Nat

inductive AExit where
  | normal
  | exit (id : Nat)
  | ret

abbrev R := AVal
abbrev Spec := List AVal → (AVal → Option R) → Option R

/-- How a loop's head is laid: the slots that are kept, and those that hold a row that grows (with its element type and kind). -/
structure Hint where
  keep : List Nat
  rows : List (Nat × TypeId × Cont)
  boxes : List Nat

/-- a function that is run within its caller's memory -/
abbrev ISpec := List AVal → Hp → Nat → (AVal → Hp → Nat → Option R) → Option R
abbrev LSpec := ASt → (AExit → ASt → Option R) → Option R

structure Ctx where
  P : Program
  G : List (Nat × Spec)
  globs : List (Nat × List AVal)
  hints : List (Nat × Hint)
  loops : List (Nat × LSpec)
  inl : List (Nat × ISpec) := []

def assoc {α : Type} : List (Nat × α) → Nat → Option α
  | [], _ => none
  | (k, b) :: r, t => bif Nat.beq k t then some b else assoc r t

def assocS : List (Nat × Spec) → Nat → Option Spec
  | [], _ => none
  | (k, b) :: r, t => bif Nat.beq k t then some b else assocS r t

def beqK : IntKind → IntKind → Bool
  | .i8, .i8 | .i16, .i16 | .i32, .i32 | .i64, .i64 | .u8, .u8 | .u16, .u16 | .u32, .u32 | .u64, .u64 => true
  | _, _ => false

namespace Cont
def len : Cont → Nat
  | .ints _ l => l.length
  | .rows _ l => l.length
  | .rows2 _ l => l.length
  | .cols n _ => n
/-- how many cells an element has -/
def size : Cont → Nat
  | .cols _ cs => cs.length
  | _ => 1
def elem1 : Cont → Nat → AVal
  | .ints k l, i => .v (.int k (l.getD i 0))
  | .rows k l, i => .sl (.ints k (l.getD i []))
  | .rows2 k l, i => .sl (.rows k (l.getD i []))
  | .cols _ _, _ => .bot
def elems1 : List Cont → Nat → List AVal
  | [], _ => []
  | c :: r, i => c.elem1 i :: elems1 r i
def elem : Cont → Nat → List AVal
  | .cols _ cs, i => elems1 cs i
  | c, i => [c.elem1 i]
def take1 (n : Nat) : Cont → Cont
  | .ints k l => .ints k (l.take n)
  | .rows k l => .rows k (l.take n)
  | .rows2 k l => .rows2 k (l.take n)
  | .cols m cs => .cols m cs
def takes (n : Nat) : List Cont → List Cont
  | [] => []
  | c :: r => c.take1 n :: takes n r
def take (n : Nat) : Cont → Cont
  | .cols m cs => .cols (min n m) (takes n cs)
  | c => c.take1 n
def drop1 (n : Nat) : Cont → Cont
  | .ints k l => .ints k (l.drop n)
  | .rows k l => .rows k (l.drop n)
  | .rows2 k l => .rows2 k (l.drop n)
  | .cols m cs => .cols m cs
def app : Cont → Cont → Option Cont
  | .ints k l, .ints k' l' => bif beqK k k' then some (.ints k (l ++ l')) else none
  | .rows k l, .rows k' l' => bif beqK k k' then some (.rows k (l ++ l')) else none
  | .rows2 k l, .rows2 k' l' => bif beqK k k' then some (.rows2 k (l ++ l')) else none
  | _, _ => none
/-- one element is another one; the value's own content -/
def set : Cont → Nat → AVal → Option Cont
  | .ints k l, i, .v (.int k' a) => bif beqK k k' then some (.ints k (l.set i a)) else none
  | .rows k l, i, .sl (.ints k' a) => bif beqK k k' then some (.rows k (l.set i a)) else none
  | _, _, _ => none
end Cont

/-! ### Cells of a box -/
def asize : AVal → Nat
  | .arr _ n _ => n
  | _ => 1

/-- the parts that fill just so many cells, and the rest -/
def splitC : List AVal → Nat → Option (List AVal × List AVal)
  | l, 0 => some ([], l)
  | [], _ + 1 => none
  | a :: r, off + 1 =>
    bif Nat.ble (asize a) (off + 1) then
      match splitC r (off + 1 - asize a) with
      | some (x, y) => some (a :: x, y)
      | none => none
    else none

def getC (l : List AVal) (off sz : Nat) : Option (List AVal × List AVal × List AVal) :=
  match splitC l off with
  | some (pre, rest) => match splitC rest sz with
    | some (mid, post) => some (pre, mid, post)
    | none => none
  | none => none

/-- parts as one value of a struct's or array's type -/
def aggOf : List AVal → AVal
  | [.arr k n l] => .arr k n l
  | l => .agg l

def partsOf : AVal → Option (List AVal)
  | .agg l => some l
  | .arr k n l => some [.arr k n l]
  | .v (.agg _) | .v (.tuple _) | .bot | .tuple _ | .fr _ _ => none
  | a => some [a]

/-! ### Types -/
def isAggT (P : Program) (t : TypeId) : Option Bool :=
  match P.underlying t with
  | some (.struct _) | some (.array _ _) => some true
  | some _ => some false
  | none => none
def cellsT (P : Program) (t : TypeId) : Option Nat := (P.info? t).map (·.size)
def bytesT (P : Program) (t : TypeId) : Option Nat := (P.info? t).map (·.bytes)

def takeInts (k : IntKind) : Nat → List Value → Option (List Int × List Value)
  | 0, r => some ([], r)
  | n + 1, .int k' x :: r => bif beqK k k' then
      match takeInts k n r with
      | some (l, r) => some (x :: l, r)
      | none => none
    else none
  | _ + 1, _ => none

mutual
/-- cells as the parts of a value of a type -/
def comps (P : Program) : Nat → TypeId → List Value → Option (List AVal × List Value)
  | 0, _, _ => none
  | d + 1, t, cs =>
    match P.underlying t with
    | some (.struct fs) => compsF P d fs.toList cs
    | some (.array n e) => match P.underlying e with
      | some (.int k) => match takeInts k n cs with
        | some (l, r) => some ([.arr k n l], r)
        | none => none
      | _ => compsN P d e n cs
    | _ => match cs with
      | .agg _ :: _ | .tuple _ :: _ | [] => none
      | x :: r => some ([.v x], r)
def compsF (P : Program) : Nat → List Field → List Value → Option (List AVal × List Value)
  | 0, _, _ => none
  | _ + 1, [], cs => some ([], cs)
  | d + 1, f :: fs, cs => match comps P d f.type cs with
    | some (a, cs) => match compsF P d fs cs with
      | some (b, cs) => some (lcat a b, cs)
      | none => none
    | none => none
def compsN (P : Program) : Nat → TypeId → Nat → List Value → Option (List AVal × List Value)
  | 0, _, _, _ => none
  | _ + 1, _, 0, cs => some ([], cs)
  | d + 1, e, n + 1, cs => match comps P d e cs with
    | some (a, cs) => match compsN P d e n cs with
      | some (b, cs) => some (lcat a b, cs)
      | none => none
    | none => none
end

def zeroParts (P : Program) (t : TypeId) : Option (List AVal) :=
  match P.info? t with
  | some i => match i.zero with
    | some z => match comps P 24 t z.cells.toList with
      | some (l, []) => some l
      | _ => none
    | none => none
  | none => none

def flatV : List AVal → Option (List Value)
  | [] => some []
  | .v (.agg _) :: _ | .v (.tuple _) :: _ => none
  | .v x :: r => match flatV r with
    | some l => some (x :: l)
    | none => none
  | _ :: _ => none

/-- parts laid as a type has them: rows of whole numbers as one part -/
def regroup (P : Program) (t : TypeId) (l : List AVal) : List AVal :=
  match flatV l with
  | some cs => match comps P 24 t cs with
    | some (l', []) => l'
    | _ => l
  | none => l

/-! ### Operations -/
def opnds : Op → List Operand
  | .move x | .assign x | .box _ x | .load _ x | .nilCheck x | .unOp _ _ x | .convert _ _ x | .makeInterface _ x
  | .fieldAddr _ x _ | .field _ x _ | .typeAssert x _ _ _ | .extract x _ => [x]
  | .pick c a b => [c, a, b]
  | .build _ ps | .buildSlice _ _ ps => ps.toList.map (·.2)
  | .store _ a v | .binOp _ _ a v _ | .makeSlice _ a v | .indexAddr _ a v | .index _ a v => [a, v]
  | .makeFunc _ first captured => lcat first.toList captured.toList
  | .slice _ x l h m => x :: lcat l.toList (lcat h.toList m.toList)
  | .call { callee := .value f, args, .. } => f :: args.toList
  | .call { callee := .invoke f _, args, .. } => f :: args.toList
  | .call { callee := .builtin _, args, .. } => args.toList
  | _ => []

def ev (f : List (Nat × AVal)) : Operand → AVal
  | .tmp t => look f t
  | .const v => .v v
  | .global g => .glob g 0
  | .func g => .fn (.func g) [] []

def evs (f : List (Nat × AVal)) : List Operand → List AVal
  | [] => []
  | x :: r => ev f x :: evs f r

structure Eff where
  val : AVal
  puts : Hp
  n : Nat

def putF (m : Nat) (dst : Option Nat) (a : AVal) (f : List (Nat × AVal)) : List (Nat × AVal) :=
  match dst with
  | none => f
  | some t => bif Nat.blt t m then (t, a) :: f else f

def ASt.put (st : ASt) (dst : Option Nat) (a : AVal) : ASt := { st with f := putF st.m dst a st.f }

def ASt.app (st : ASt) (e : Eff) (dst : Option Nat) : ASt :=
  { f := putF st.m dst e.val st.f, h := lcat e.puts st.h, n := e.n, m := st.m }

/-- the content of a slice value -/
def contA (hl : Nat → Option Blk) : AVal → Option Cont
  | .sl c => some c
  | .own id => match hl id with
    | some ⟨.row _ c, _⟩ => some c
    | _ => none
  | .win id off len => match hl id with
    | some ⟨.row _ (.ints k l), _⟩ => some (.ints k ((l.drop off).take len))
    | some ⟨.row _ (.rows k l), _⟩ => some (.rows k ((l.drop off).take len))
    | some ⟨.row _ (.rows2 k l), _⟩ => some (.rows2 k ((l.drop off).take len))
    | _ => none
  | .awin id off m lo len => match hl id with
    | some ⟨.box _ cs, _⟩ => match splitC cs off with
      | some (_, .arr k m' l :: _) => bif Nat.beq m m' then some (.ints k ((l.drop lo).take len)) else none
      | _ => none
    | _ => none
  | _ => none

def lenA (hl : Nat → Option Blk) : AVal → Option Nat
  | .sl c => some c.len
  | .own id => match hl id with
    | some ⟨.row _ c, _⟩ => some c.len
    | _ => none
  | .win _ _ len => some len
  | .awin _ _ _ _ len => some len
  | .v (.slice none 0 0) => some 0
  | _ => none

def kOk (k k' : IntKind) (x : Option R) : Option R := bif beqK k k' then x else none

def binA (op : BinOp) (x y : AVal) (K : AVal → Option R) : Option R :=
  match op, x, y with
  | .shl, .v (.int k a), .v (.int _ b) => br (decide (b < 0)) none (K (.v (.int k (k.wrap (a * 2 ^ min b.toNat k.bits)))))
  | .shr, .v (.int k a), .v (.int _ b) => br (decide (b < 0)) none (K (.v (.int k (a.fdiv (2 ^ min b.toNat k.bits)))))
  | .add, .v (.int k a), .v (.int k' b) => kOk k k' (K (.v (.int k (k.wrap (a + b)))))
  | .sub, .v (.int k a), .v (.int k' b) => kOk k k' (K (.v (.int k (k.wrap (a - b)))))
  | .mul, .v (.int k a), .v (.int k' b) => kOk k k' (K (.v (.int k (k.wrap (a * b)))))
  | .quo, .v (.int k a), .v (.int k' b) => kOk k k' (br (decide (b = 0)) none (K (.v (.int k (k.wrap (a.tdiv b))))))
  | .rem, .v (.int k a), .v (.int k' b) => kOk k k' (br (decide (b = 0)) none (K (.v (.int k (a.tmod b)))))
  | .and, .v (.int k a), .v (.int k' b) => kOk k k' (K (.v (.int k (bits .and k a b))))
  | .or, .v (.int k a), .v (.int k' b) => kOk k k' (K (.v (.int k (bits .or k a b))))
  | .xor, .v (.int k a), .v (.int k' b) => kOk k k' (K (.v (.int k (bits .xor k a b))))
  | .eql, .v (.int k a), .v (.int k' b) => kOk k k' (K (.v (.bool (a == b))))
  | .neq, .v (.int k a), .v (.int k' b) => kOk k k' (K (.v (.bool (a != b))))
  | .lss, .v (.int k a), .v (.int k' b) => kOk k k' (K (.v (.bool (decide (a < b)))))
  | .leq, .v (.int k a), .v (.int k' b) => kOk k k' (K (.v (.bool (decide (a ≤ b)))))
  | .gtr, .v (.int k a), .v (.int k' b) => kOk k k' (K (.v (.bool (decide (a > b)))))
  | .geq, .v (.int k a), .v (.int k' b) => kOk k k' (K (.v (.bool (decide (a ≥ b)))))
  | _, _, _ => none

mutual
/-- a value as it is handed to a function: rows by their content -/
def xport (hl : Nat → Option Blk) : AVal → AVal
  | .own id => match contA hl (.own id) with
    | some c => .sl c
    | none => .bot
  | .win id off len => match contA hl (.win id off len) with
    | some c => .sl c
    | none => .bot
  | .awin id off m lo len => match contA hl (.awin id off m lo len) with
    | some c => .sl c
    | none => .bot
  | .ptr .. | .pel .. | .apel .. | .sta _ | .glob .. | .gel .. | .fr _ _ => .bot
  | .agg l => .agg (xports hl l)
  | .tuple l => .tuple (xports hl l)
  | .fn f a b => .fn f (xports hl a) (xports hl b)
  | .iface t x => .iface t (xport hl x)
  | a => a
def xports (hl : Nat → Option Blk) : List AVal → List AVal
  | [] => []
  | a :: r => xport hl a :: xports hl r
end

mutual
/-- may a result share memory with what was handed over? -/
def shares : AVal → Bool
  | .v _ | .bot | .arr .. | .fr _ (.ints ..) => false
  | .agg l | .tuple l => sharesL l
  | _ => true
def sharesL : List AVal → Bool
  | [] => false
  | a :: r => shares a || sharesL r
end

mutual
/-- a function's result as the caller has it: fresh rows are the caller's own -/
def imp : AVal → Nat → Hp → AVal × Nat × Hp
  | .fr e c, n, h => (.own n, n + 1, (n, some ⟨.row e c, false⟩) :: h)
  | .agg l, n, h => match impL l n h with | (l, n, h) => (.agg l, n, h)
  | .tuple l, n, h => match impL l n h with | (l, n, h) => (.tuple l, n, h)
  | a, n, h => (a, n, h)
def impL : List AVal → Nat → Hp → List AVal × Nat × Hp
  | [], n, h => ([], n, h)
  | a :: r, n, h => match imp a n h with
    | (a, n, h) => match impL r n h with
      | (r, n, h) => (a :: r, n, h)
end

def memN (x : Nat) : List Nat → Bool
  | [] => false
  | y :: r => Nat.beq x y || memN x r

def freeze (hl : Nat → Option Blk) : List Nat → Hp → Hp
  | [], h => h
  | id :: r, h => match hl id with
    | some b => (id, some ⟨b.b, true⟩) :: freeze hl r h
    | none => freeze hl r h

/-- a call of a function with a contract -/
def callG (s : Spec) (args : List AVal) (hl : Nat → Option Blk) (n : Nat) (K : Eff → Option R) : Option R :=
  s (xports hl args) fun a =>
    match imp a n (bif shares a then freeze hl (rowIdsL args) [] else []) with
    | (a, n, h) => K ⟨a, h, n⟩

/-- 2^47 -/
def limit : Nat := 140737488355328

/-- a row of so many zero values -/
def contZero (P : Program) (e : TypeId) (n : Nat) : Option Cont :=
  match P.info? e with
  | some i => bif Nat.beq i.size 1 then
      match i.zero with
      | some (.int k (.ofNat 0)) => some (.ints k (List.replicate n 0))
      | some (.slice none 0 0) => match P.underlying e with
        | some (.slice f) => match P.underlying f with
          | some (.int k) => some (.rows k (List.replicate n []))
          | some (.slice g) => match P.underlying g with
            | some (.int k) => some (.rows2 k (List.replicate n []))
            | _ => none
          | _ => none
        | _ => none
      | _ => none
    else none
  | none => none

def intsOf (k : IntKind) : List AVal → Option (List Int)
  | [] => some []
  | .v (.int k' x) :: r => bif beqK k k' then
      match intsOf k r with
      | some l => some (x :: l)
      | none => none
    else none
  | _ => none

def rowsOf (hl : Nat → Option Blk) (k : IntKind) : List AVal → Option (List (List Int))
  | [] => some []
  | a :: r => match contA hl a with
    | some (.ints k' x) => bif beqK k k' then
        match rowsOf hl k r with
        | some l => some (x :: l)
        | none => none
      else none
    | _ => match a with
      | .v (.slice none 0 0) => match rowsOf hl k r with
        | some l => some ([] :: l)
        | none => none
      | _ => none

def rows2Of (hl : Nat → Option Blk) (k : IntKind) : List AVal → Option (List (List (List Int)))
  | [] => some []
  | a :: r => match contA hl a with
    | some (.rows k' x) => bif beqK k k' then
        match rows2Of hl k r with
        | some l => some (x :: l)
        | none => none
      else none
    | _ => none

/-- elements as a row's content -/
def contOf (P : Program) (hl : Nat → Option Blk) (e : TypeId) (vs : List AVal) : Option Cont :=
  match P.underlying e with
  | some (.int k) => match intsOf k vs with
    | some l => some (.ints k l)
    | none => none
  | some (.slice f) => match P.underlying f with
    | some (.int k) => match rowsOf hl k vs with
      | some l => some (.rows k l)
      | none => none
    | some (.slice g) => match P.underlying g with
      | some (.int k) => match rows2Of hl k vs with
        | some l => some (.rows2 k l)
        | none => none
      | _ => none
    | _ => none
  | _ => none

/-- elements of one cell -/
def elemOk (P : Program) (e : TypeId) : Bool :=
  match P.info? e with
  | some i => Nat.beq i.size 1 && i.zero.isSome
  | none => false

def inOrder : Nat → List (Nat × Operand) → Bool
  | _, [] => true
  | i, (j, _) :: r => Nat.beq i j && inOrder (i + 1) r

/-- at which of so many places a number stands -/
def placeA (i : Int) : Nat → Nat → (Nat → Option R) → Option R
  | 0, _, _ => none
  | n + 1, j, K => br (decide (i = (j : Int))) (K j) (placeA i n (j + 1) K)

def optV : Option Operand → List AVal → Option (Option Int × List AVal)
  | none, l => some (none, l)
  | some _, .v (.int _ i) :: r => some (some i, r)
  | _, _ => none

def Cont.sub (l h : Nat) : Cont → Option Cont
  | .ints k z => some (.ints k ((z.take h).drop l))
  | .rows k z => some (.rows k ((z.take h).drop l))
  | .rows2 k z => some (.rows2 k ((z.take h).drop l))
  | .cols .. => none

/-- a slice of a slice, within its length -/
def sliceA (hl : Nat → Option Blk) (x : AVal) (sz : Nat) (l h : Int) (len : Nat) (n : Nat) (mx : Option Int) (K : Eff → Option R) : Option R :=
  match mx with
  | none => match x with
    | .sl c => match c.sub l.toNat h.toNat with
      | some c => bif Nat.beq sz 1 then K ⟨.sl c, [], n⟩ else none
      | none => none
    | .own id => bif Nat.beq sz 1 then K ⟨.win id l.toNat (h - l).toNat, [], n⟩ else
        match l with
        | .ofNat 0 => K ⟨.win id 0 h.toNat, [], n⟩
        | _ => none
    | .win id off _ => match hl id with
      | some ⟨.row _ _, _⟩ => bif Nat.beq sz 1 then K ⟨.win id (off + l.toNat) (h - l).toNat, [], n⟩ else none
      | _ => none
    | .awin id off m lo _ => bif Nat.beq sz 1 then K ⟨.awin id off m (lo + l.toNat) (h - l).toNat, [], n⟩ else none
    | _ => none
  | some m => bif Nat.beq sz 1 then br (decide (h ≤ m)) (br (decide (m ≤ (len : Int))) (match contA hl x with
    | some c => match c.sub l.toNat h.toNat with
      | some c => K ⟨.sl c, freeze hl (rowIds x) [], n⟩
      | none => none
    | none => none) none) none else none

/-- one part, not a row of numbers -/
def oneA (mid : List AVal) (n : Nat) (K : Eff → Option R) : Option R :=
  match mid with
  | [.arr ..] => none
  | [a] => K ⟨a, [], n⟩
  | _ => none

/-- parts as a value of a type that is one of structs or arrays (or not) -/
def partA (g : Bool) (mid : List AVal) (n : Nat) (K : Eff → Option R) : Option R :=
  bif g then K ⟨aggOf mid, [], n⟩ else oneA mid n K

/-- the parts that lie at an address -/
def placeOf (D : Ctx) (hl : Nat → Option Blk) (x : AVal) (sz : Nat) : Option (List AVal) :=
  match x with
  | .sta l => match splitC l sz with
    | some (mid, []) => some mid
    | _ => none
  | .ptr id off => match hl id with
    | some ⟨.box _ l, _⟩ => match getC l off sz with
      | some (_, mid, _) => some mid
      | none => none
    | _ => none
  | .glob gl off => match assoc D.globs gl with
    | some l => match getC l off sz with
      | some (_, mid, _) => some mid
      | none => none
    | none => none
  | .pel id s i => match hl id with
    | some ⟨.row _ c, _⟩ => bif Nat.beq s c.size && Nat.beq s sz then some (c.elem i) else none
    | _ => none
  | .apel id off m i => match hl id with
    | some ⟨.box _ l, _⟩ => match splitC l off with
      | some (_, .arr k m' z :: _) => bif Nat.beq m m' && Nat.beq sz 1 then some [.v (.int k (z.getD i 0))] else none
      | _ => none
    | _ => none
  | .gel gl off m i => match assoc D.globs gl with
    | some l => match splitC l off with
      | some (_, .arr k m' z :: _) => bif Nat.beq m m' && Nat.beq sz 1 then some [.v (.int k (z.getD i 0))] else none
      | _ => none
    | none => none
  | _ => none

def loadA (D : Ctx) (t : TypeId) (x : AVal) (hl : Nat → Option Blk) (n : Nat) (K : Eff → Option R) : Option R :=
  match isAggT D.P t, cellsT D.P t with
  | some g, some sz => match placeOf D hl x sz with
    | some mid => partA g mid n K
    | none => none
  | _, _ => none

def storeA (D : Ctx) (t : TypeId) (x y : AVal) (hl : Nat → Option Blk) (n : Nat) (K : Eff → Option R) : Option R :=
  match cellsT D.P t with
  | some sz => match x with
    | .ptr id off => match hl id, partsOf y with
      | some ⟨.box e l, false⟩, some p => match getC l off sz, splitC p sz with
        | some (pre, _, post), some (p, []) => K ⟨.bot, [(id, some ⟨.box e (lcat pre (lcat p post)), false⟩)], n⟩
        | _, _ => none
      | _, _ => none
    | .pel id s i => match hl id with
      | some ⟨.row e c, false⟩ => bif Nat.beq s 1 && Nat.beq sz 1 && !memN id (rowIds y) then
          match c.set i (xport hl y) with
          | some c => K ⟨.bot, (id, some ⟨.row e c, false⟩) :: freeze hl (rowIds y) [], n⟩
          | none => none
        else none
      | _ => none
    | .apel id off m i => match hl id, y with
      | some ⟨.box e l, false⟩, .v (.int k' a) => match splitC l off with
        | some (pre, .arr k m' z :: post) => bif Nat.beq m m' && Nat.beq sz 1 then kOk k k' (K ⟨.bot, [(id, some ⟨.box e (lcat pre (.arr k m' (z.set i a) :: post)), false⟩)], n⟩) else none
        | _ => none
      | _, _ => none
    | _ => none
  | none => none

def fieldAddrA (D : Ctx) (s : TypeId) (x : AVal) (f : Nat) (n : Nat) (K : Eff → Option R) : Option R :=
  match D.P.underlying s with
  | some (.struct fs) => match fs[f]? with
    | some fd => match cellsT D.P fd.type with
      | some (sz + 1) => match x with
        | .ptr id off => K ⟨.ptr id (off + fd.offset), [], n⟩
        | .glob g off => K ⟨.glob g (off + fd.offset), [], n⟩
        | .sta l => match getC l fd.offset (sz + 1) with
          | some (_, mid, _) => K ⟨.sta mid, [], n⟩
          | none => none
        | _ => none
      | _ => none
    | none => none
  | _ => none

def fieldA (D : Ctx) (s : TypeId) (l : List AVal) (f : Nat) (n : Nat) (K : Eff → Option R) : Option R :=
  match D.P.underlying s with
  | some (.struct fs) => match fs[f]? with
    | some fd => match isAggT D.P fd.type, cellsT D.P fd.type with
      | some g, some sz => match getC l fd.offset sz with
        | some (_, mid, _) => partA g mid n K
        | none => none
      | _, _ => none
    | none => none
  | _ => none

/-- an index that lies within -/
def within (i : Int) (len : Nat) (x : Option R) : Option R := br (decide (0 ≤ i)) (br (decide (i < (len : Int))) x none) none

def indexSlA (x : AVal) (i : Int) (sz : Nat) (hl : Nat → Option Blk) (n : Nat) (K : Eff → Option R) : Option R :=
  match x with
  | .sl c => bif Nat.beq c.size sz then within i c.len (K ⟨.sta (c.elem i.toNat), [], n⟩) else none
  | .own id => match hl id with
    | some ⟨.row _ c, _⟩ => within i c.len (K ⟨.pel id sz i.toNat, [], n⟩)
    | _ => none
  | .win id off len => match hl id with
    | some ⟨.row _ _, _⟩ => bif Nat.beq sz 1 then within i len (K ⟨.pel id 1 (off + i.toNat), [], n⟩) else none
    | _ => none
  | .awin id off m lo len => bif Nat.beq sz 1 then within i len (K ⟨.apel id off m (lo + i.toNat), [], n⟩) else none
  | _ => none

def indexArA (D : Ctx) (x : AVal) (i : Int) (m sz : Nat) (hl : Nat → Option Blk) (n : Nat) (K : Eff → Option R) : Option R :=
  match x with
  | .ptr id off => match hl id with
    | some ⟨.box _ l, _⟩ => match splitC l off with
      | some (_, .arr _ m' _ :: _) => bif Nat.beq m m' && Nat.beq sz 1 then within i m (K ⟨.apel id off m i.toNat, [], n⟩) else none
      | some _ => placeA i m 0 fun j => K ⟨.ptr id (off + j * sz), [], n⟩
      | none => none
    | _ => none
  | .glob g off => match assoc D.globs g with
    | some l => match splitC l off with
      | some (_, .arr _ m' _ :: _) => bif Nat.beq m m' && Nat.beq sz 1 then within i m (K ⟨.gel g off m i.toNat, [], n⟩) else none
      | some _ => placeA i m 0 fun j => K ⟨.glob g (off + j * sz), [], n⟩
      | none => none
    | none => none
  | _ => none

def indexAddrA (D : Ctx) (t : TypeId) (x : AVal) (i : Int) (hl : Nat → Option Blk) (n : Nat) (K : Eff → Option R) : Option R :=
  match D.P.underlying t with
  | some (.slice e) => match cellsT D.P e with
    | some sz => indexSlA x i sz hl n K
    | none => none
  | some (.array m e) => match cellsT D.P e with
    | some sz => indexArA D x i m sz hl n K
    | none => none
  | _ => none

def indexA (D : Ctx) (t : TypeId) (x : AVal) (i : Int) (n : Nat) (K : Eff → Option R) : Option R :=
  match D.P.underlying t with
  | some (.array m e) => match cellsT D.P e, isAggT D.P e with
    | some sz, some g => match x with
      | .arr k m' l => bif Nat.beq m m' && Nat.beq sz 1 && !g then within i m (K ⟨.v (.int k (l.getD i.toNat 0)), [], n⟩) else none
      | .agg l => placeA i m 0 fun j => match getC l (j * sz) sz with
        | some (_, mid, _) => partA g mid n K
        | none => none
      | _ => none
    | _, _ => none
  | _ => none

def makeSliceA (D : Ctx) (t : TypeId) (l c : Int) (n : Nat) (K : Eff → Option R) : Option R :=
  match D.P.underlying t with
  | some (.slice e) => match bytesT D.P e with
    | some (by_ + 1) => match contZero D.P e l.toNat with
      | some ct => br (decide (0 ≤ l)) (br (decide (l ≤ c)) (br (decide (c * ((by_ + 1 : Nat) : Int) ≤ (limit : Int))) (K ⟨.own n, [(n, some ⟨.row e ct, false⟩)], n + 1⟩) none) none) none
      | none => none
    | _ => none
  | _ => none

def buildSliceA (D : Ctx) (t : TypeId) (len : Nat) (ps : Array (Nat × Operand)) (vs : List AVal) (hl : Nat → Option Blk) (n : Nat) (K : Eff → Option R) : Option R :=
  match D.P.underlying t with
  | some (.slice e) =>
    bif inOrder 0 ps.toList && Nat.beq len ps.size && Nat.ble len 16777216 && elemOk D.P e then
      match contOf D.P hl e vs with
      | some c => K ⟨.own n, (n, some ⟨.row e c, false⟩) :: freeze hl (rowIdsL vs) [], n + 1⟩
      | none => none
    else none
  | _ => none

/-- what is appended to: the element type, the content, and the id that is used up -/
def oldA (hl : Nat → Option Blk) (e : TypeId) (s : AVal) : Option (Option Cont × Hp) :=
  match s with
  | .v (.slice none 0 0) => some (none, [])
  | .own id => match hl id with
    | some ⟨.row e' c, false⟩ => bif Nat.beq e e' then some (some c, [(id, none)]) else none
    | _ => none
  | .win id 0 len => match hl id with
    | some ⟨.row e' c, false⟩ => bif Nat.beq e e' then some (some (c.take len), [(id, none)]) else none
    | _ => none
  | _ => none

def zeroFits (i : TypeInfo) : Bool :=
  match i.zero with
  | some z => Nat.beq z.cells.size i.size
  | none => false

def appendA (D : Ctx) (t : TypeId) (s x : AVal) (hl : Nat → Option Blk) (n : Nat) (K : Eff → Option R) : Option R :=
  match D.P.underlying t with
  | some (.slice e) => match D.P.info? e with
    | some i => bif Nat.blt 0 i.size && Nat.blt 0 i.bytes && zeroFits i then
        match oldA hl e s, contA hl x with
        | some (some c, dead), some cx => match c.app cx with
          | some c' => bif Nat.beq c.size i.size then br (decide ((c.len + cx.len) * i.bytes ≤ limit)) (K ⟨.own n, (n, some ⟨.row e c', false⟩) :: dead, n + 1⟩) none else none
          | none => none
        | some (none, dead), some cx => bif Nat.beq cx.size i.size then br (decide (cx.len * i.bytes ≤ limit)) (K ⟨.own n, (n, some ⟨.row e cx, false⟩) :: dead, n + 1⟩) none else none
        | _, _ => none
      else none
    | none => none
  | _ => none

def sliceOpA (D : Ctx) (t : TypeId) (x : AVal) (lo hi mx : Option Int) (hl : Nat → Option Blk) (n : Nat) (K : Eff → Option R) : Option R :=
  match D.P.underlying t with
  | some (.slice e) => match cellsT D.P e, lenA hl x with
    | some sz, some len =>
      match lo, hi, mx with
      | none, none, none => K ⟨x, [], n⟩
      | _, none, some _ => none
      | _, _, _ =>
        br (decide (0 ≤ lo.getD 0)) (br (decide (lo.getD 0 ≤ hi.getD (len : Int))) (br (decide (hi.getD (len : Int) ≤ (len : Int)))
          (sliceA hl x sz (lo.getD 0) (hi.getD (len : Int)) len n mx K) none) none) none
    | _, _ => none
  | some (.array m e) => match cellsT D.P e, x, mx with
    | some sz, .ptr id off, none =>
      bif Nat.beq sz 1 then
        br (decide (0 ≤ lo.getD 0)) (br (decide (lo.getD 0 ≤ hi.getD (m : Int))) (br (decide (hi.getD (m : Int) ≤ (m : Int)))
          (K ⟨.awin id off m (lo.getD 0).toNat (hi.getD (m : Int) - lo.getD 0).toNat, [], n⟩) none) none) none
      else none
    | _, _, _ => none
  | _ => none

def lenOpA (D : Ctx) (t : TypeId) (x : AVal) (hl : Nat → Option Blk) (n : Nat) (K : Eff → Option R) : Option R :=
  match D.P.underlying t with
  | some (.slice _) => match lenA hl x with
    | some m => K ⟨.v (.int .i64 (m : Int)), [], n⟩
    | none => none
  | _ => none

def callA (D : Ctx) (c : Callee) (as : List Operand) (ts : List TypeId) (vs : List AVal) (hl : Nat → Option Blk) (n : Nat) (K : Eff → Option R) : Option R :=
  match c, as, ts, vs with
  | .builtin .len, [_], t :: _, [x] => lenOpA D t x hl n K
  | .builtin .min, [_, _], _, [.v (.int k a), .v (.int _ b)] => K ⟨.v (.int k (cond (decide (b < a)) b a)), [], n⟩
  | .builtin .max, [_, _], _, [.v (.int k a), .v (.int _ b)] => K ⟨.v (.int k (cond (decide (b > a)) b a)), [], n⟩
  | .builtin .append, [_, _], [t, t'], [s, x] => bif Nat.beq t t' then appendA D t s x hl n K else none
  | .value _, _, _, .fn (.func g) first caps :: args => match assocS D.G g with
    | some s => callG s (lcat first (lcat args caps)) hl n K
    | none => none
  | _, _, _, _ => none

def core (D : Ctx) (op : Op) (vs : List AVal) (hl : Nat → Option Blk) (n : Nat) (K : Eff → Option R) : Option R :=
  match op, vs with
  | .move _, [x] => K ⟨x, [], n⟩
  | .assign _, [x] => K ⟨x, [], n⟩
  | .pick _ _ _, [.v (.bool t), a, b] => br t (K ⟨a, [], n⟩) (K ⟨b, [], n⟩)
  | .alloc e, [] => match zeroParts D.P e with
    | some l => K ⟨.ptr n 0, [(n, some ⟨.box e l, false⟩)], n + 1⟩
    | none => none
  | .box e _, [x] => match partsOf x with
    | some l => K ⟨.ptr n 0, [(n, some ⟨.box e (regroup D.P e l), false⟩)], n + 1⟩
    | none => none
  | .buildSlice t len ps, vs => buildSliceA D t len ps vs hl n K
  | .load t _, [x] => loadA D t x hl n K
  | .store t _ _, [x, y] => storeA D t x y hl n K
  | .nilCheck _, [x] => match x with
    | .ptr .. | .pel .. | .apel .. | .sta _ | .glob .. | .gel .. | .fn (.func _) _ _ | .iface _ _ => K ⟨x, [], n⟩
    | _ => none
  | .binOp op _ _ _ _, [x, y] => binA op x y fun a => K ⟨a, [], n⟩
  | .unOp .not _ _, [.v (.bool t)] => K ⟨.v (.bool !t), [], n⟩
  | .unOp .neg _ _, [.v (.int k a)] => K ⟨.v (.int k (k.wrap (0 - a))), [], n⟩
  | .convert src dst _, [.v (.int _ a)] => match D.P.underlying src, D.P.underlying dst with
    | some _, some (.int k) => K ⟨.v (.int k (k.wrap a)), [], n⟩
    | _, _ => none
  | .makeInterface t _, [x] => match D.P.underlying t with
    | some (.interface _) | none => none
    | some _ => K ⟨.iface t x, [], n⟩
  | .makeFunc fn first _, vs => K ⟨.fn fn (vs.take first.size) (vs.drop first.size), [], n⟩
  | .extract _ i, [.tuple l] => bif Nat.blt i l.length then K ⟨l.getD i .bot, [], n⟩ else none
  | .slice t _ lo hi mx, x :: rest => match optV lo rest with
    | some (lo, rest) => match optV hi rest with
      | some (hi, rest) => match optV mx rest with
        | some (mx, _) => sliceOpA D t x lo hi mx hl n K
        | none => none
      | none => none
    | none => none
  | .makeSlice t _ _, [.v (.int _ l), .v (.int _ c)] => makeSliceA D t l c n K
  | .fieldAddr s _ f, [x] => fieldAddrA D s x f n K
  | .field s _ f, [.agg l] => fieldA D s l f n K
  | .indexAddr t _ _, [x, .v (.int _ i)] => indexAddrA D t x i hl n K
  | .index t _ _, [x, .v (.int _ i)] => indexA D t x i n K
  | .call c, vs => callA D c.callee c.args.toList c.argTypes.toList vs hl n K
  | _, _ => none

def mask (vs : List AVal) (h : Hp) (id : Nat) : Option Blk := bif mentionsL id vs then hlook h id else none

def opA (D : Ctx) (o : Oper) (st : ASt) (K : Eff → Option R) : Option R :=
  core D o.op (evs st.f (opnds o.op)) (mask (evs st.f (opnds o.op)) st.h) st.n K

end Go.Abs
