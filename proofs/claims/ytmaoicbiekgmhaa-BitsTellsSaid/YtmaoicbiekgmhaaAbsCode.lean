import Derived.Test.YtmaoicbiekgmhaaAbsCore2
namespace Go.Abs
open Go Go.RowKit
set_option linter.unusedVariables false
set_option linter.unusedSimpArgs false

/-! ### Code -/
def guardT (ops : Array Oper) (j : Nat) : Option Nat := (ops[j]?).bind (·.dst)

def beqB : Bool → Bool → Bool
  | true, true | false, false => true
  | _, _ => false

/-- an operation under its guard -/
def guardA (ops : Array Oper) (o : Oper) (st : ASt) (F : ASt → Option R) (S : ASt → Option R) : Option R :=
  match o.guard with
  | none => F st
  | some (j, want) => match guardT ops j with
    | none => none
    | some t => match look st.f t with
      | .v (.bool b) => br b (bif want then F (st.put (some t) (.v (.bool true))) else S (st.put (some t) (.v (.bool true)))) (bif want then S (st.put (some t) (.v (.bool false))) else F (st.put (some t) (.v (.bool false))))
      | .v (.tuple _) => S st
      | _ => none

def iassoc : List (Nat × ISpec) → Nat → Option ISpec
  | [], _ => none
  | (k, s) :: r, t => bif Nat.beq k t then some s else iassoc r t

/-- the function that an operation calls directly -/
def directOf : Op → Option (Nat × List Operand)
  | .call { callee := .value (.func g), args, .. } => some (g, args.toList)
  | _ => none

def inlOf (D : Ctx) (op : Op) : Option (ISpec × List Operand) :=
  match directOf op with
  | some (g, as) => match iassoc D.inl g with
    | some s => some (s, as)
    | none => none
  | none => none

/-- an operation, or a call within the caller's memory -/
def doA (D : Ctx) (o : Oper) (st : ASt) (K : ASt → Option R) : Option R :=
  match inlOf D o.op with
  | some (s, as) => s (evs st.f as) st.h st.n fun v h n => K { f := putF st.m o.dst v st.f, h := h, n := n, m := st.m }
  | none => opA D o st fun e => K (st.app e o.dst)

/-- a region whose operations are done in their order -/
def opsA (D : Ctx) (ops : Array Oper) : List Oper → ASt → (ASt → Option R) → Option R
  | [], st, K => K st
  | o :: rest, st, K => guardA ops o st (fun st => doA D o st fun st => opsA D ops rest st K) (fun st => opsA D ops rest (st.put o.dst (.v undef)) K)

/-- what is known of an operation that has been done: what it looks at, what it writes, and which ones are ahead of it -/
structure Info where
  looks : List Nat
  dst : Option Nat
  vs : List AVal
  puts : Hp
  cl : List Nat

def tmpsOf : List Operand → List Nat
  | [] => []
  | .tmp t :: r => t :: tmpsOf r
  | _ :: r => tmpsOf r

def nth {α : Type} : List α → Nat → Option α
  | [], _ => none
  | a :: _, 0 => some a
  | _ :: r, n + 1 => nth r n

/-- the operations that are surely done ahead: the newest of the list has the number i - 1 -/
def cloA (acc : List Info) (i : Nat) : List Edge → Option (List Nat)
  | [] => some []
  | e :: r => bif Region.binds .any e then
      bif Nat.blt e.on i then
        match nth acc (i - 1 - e.on), cloA acc i r with
        | some x, some l => some (e.on :: lcat x.cl l)
        | _, _ => none
      else none
    else cloA acc i r

def dstHits (d : Option Nat) (l : List Nat) : Bool :=
  match d with
  | none => false
  | some d => memN d l
def dstSame (d d' : Option Nat) : Bool :=
  match d, d' with
  | some d, some d' => Nat.beq d d'
  | _, _ => false
def putsHit : Hp → List AVal → Hp → Bool
  | [], _, _ => false
  | (id, _) :: r, vs, h => mentionsL id vs || (assoc h id).isSome || putsHit r vs h

/-- two operations that may be done in either order -/
def apartI (x y : Info) : Bool :=
  !(dstHits x.dst y.looks || dstHits y.dst x.looks || dstSame x.dst y.dst || putsHit x.puts y.vs y.puts || putsHit y.puts x.vs x.puts)

def fitsA : List Info → Nat → Info → Bool
  | [], _, _ => true
  | x :: r, n, y => (memN (n - 1) y.cl || apartI x y) && fitsA r (n - 1) y

def gLooks (ops : Array Oper) (o : Oper) : List Nat :=
  match o.guard with
  | some (j, _) => (guardT ops j).toList
  | none => []
def infoDo (ops : Array Oper) (o : Oper) (vs : List AVal) (puts : Hp) (cl : List Nat) : Info := ⟨lcat (gLooks ops o) (tmpsOf (opnds o.op)), o.dst, vs, puts, cl⟩
def infoSkip (ops : Array Oper) (o : Oper) (cl : List Nat) : Info := ⟨gLooks ops o, o.dst, [], [], cl⟩
def drawIf (acc : List Info) (i : Nat) (I : Info) (F : List Info → Option R) : Option R := bif fitsA acc i I then F (I :: acc) else none

/-- the operands of whose memory an operation tells -/
def heapVals (op : Op) (vs : List AVal) : List AVal :=
  match op with
  | .move _ | .assign _ | .pick _ _ _ | .nilCheck _ | .makeFunc _ _ _ | .makeInterface _ _ | .fieldAddr _ _ _ | .box _ _ => []
  | _ => vs
def opD (D : Ctx) (o : Oper) (st : ASt) (K : Eff → Option R) : Option R :=
  core D o.op (evs st.f (opnds o.op)) (mask (heapVals o.op (evs st.f (opnds o.op))) st.h) st.n K

/-- a region whose operations are done in any order that their edges leave -/
def drawA (D : Ctx) (ops : Array Oper) : List Oper → Nat → List Info → ASt → (ASt → Option R) → Option R
  | [], _, _, st, K => K st
  | o :: rest, i, acc, st, K =>
    match cloA acc i o.after.toList with
    | none => none
    | some cl =>
      guardA ops o st
        (fun st => opD D o st fun e => drawIf acc i (infoDo ops o (heapVals o.op (evs st.f (opnds o.op))) e.puts cl) fun acc => drawA D ops rest (i + 1) acc (st.app e o.dst) K)
        (fun st => drawIf acc i (infoSkip ops o cl) fun acc => drawA D ops rest (i + 1) acc (st.put o.dst (.v undef)) K)

def firstRegion : Code → Nat
  | .region id _ _ => id
  | .seq a _ => firstRegion a
  | .block _ b => firstRegion b
  | .loop b => firstRegion b
  | .scope b => firstRegion b
  | _ => 0

def hintOf : List (Nat × Hint) → Nat → Hint
  | [], _ => ⟨[], [], []⟩
  | (k, h) :: r, t => bif Nat.beq k t then h else hintOf r t

mutual
/-- all ids are below a number -/
def bnd (n : Nat) : AVal → Bool
  | .own j | .win j _ _ | .awin j _ _ _ _ | .ptr j _ | .pel j _ _ | .apel j _ _ _ => Nat.blt j n
  | .agg l | .sta l | .tuple l => bndL n l
  | .fn _ a b => bndL n a && bndL n b
  | .iface _ x => bnd n x
  | _ => true
def bndL (n : Nat) : List AVal → Bool
  | [] => true
  | a :: r => bnd n a && bndL n r
end

def bndB (n : Nat) : Bk → Bool
  | .row _ _ => true
  | .box _ l => bndL n l

/-- the slots that are kept at a loop's head -/
def keepF (f : List (Nat × AVal)) (n : Nat) : List Nat → Option (List (Nat × AVal))
  | [] => some []
  | t :: r => bif bnd n (look f t) then
      match keepF f n r with
      | some l => some ((t, look f t) :: l)
      | none => none
    else none

/-- the rows that grow: each has its own number at a loop's head -/
def keepR (f : List (Nat × AVal)) (h : Hp) : Nat → List (Nat × TypeId × Cont) → Option (List (Nat × AVal) × Hp × List Nat)
  | _, [] => some ([], [], [])
  | n, (t, e, c0) :: r => match keepR f h (n + 1) r with
    | none => none
    | some (fs, hs, us) => match look f t with
      | .own id => match hlook h id with
        | some ⟨.row e' c, false⟩ => bif Nat.beq e e' && !memN id us then some ((t, .own n) :: fs, (n, some ⟨.row e c, false⟩) :: hs, id :: us) else none
        | _ => none
      | .v (.slice none 0 0) => bif Nat.beq c0.len 0 then some ((t, .own n) :: fs, (n, some ⟨.row e c0, false⟩) :: hs, us) else none
      | _ => none

/-- the blocks from outside, as they are now -/
def keepH (h : Hp) (n : Nat) (us : List Nat) : List Nat → Option Hp
  | [] => some []
  | id :: r => match keepH h n us r with
    | none => none
    | some l => bif memN id us then some ((id, none) :: l) else
      match hlook h id with
      | none => some ((id, none) :: l)
      | some b => bif bndB n b.b && Nat.blt id n then some ((id, some b) :: l) else none

def idsOf : Hp → List Nat → List Nat
  | [], acc => acc
  | (id, _) :: r, acc => bif memN id acc then idsOf r acc else idsOf r (id :: acc)

def norm (h : Hint) (n : Nat) (ids : List Nat) (st : ASt) : Option ASt :=
  match keepR st.f st.h n h.rows with
  | none => none
  | some (fs, hs, us) => match keepF st.f n h.keep, keepH st.h n us ids with
    | some f, some hh => some { f := lcat fs f, h := lcat hs hh, n := n + h.rows.length, m := st.m }
    | _, _ => none

def lassoc : List (Nat × LSpec) → Nat → Option LSpec
  | [], _ => none
  | (k, s) :: r, t => bif Nat.beq k t then some s else lassoc r t

/-- the slots that a return hands on -/
def retF (f : List (Nat × AVal)) : List Nat → List (Nat × AVal)
  | [] => []
  | t :: r => (t, look f t) :: retF f r

/-- behind a round: the next one, or the way out -/
def knot (h : Hint) (n : Nat) (ids : List Nat) (K : AExit → ASt → Option R) (next : ASt → Option R) (ex : AExit) (st : ASt) : Option R :=
  match ex with
  | .normal => match norm h n ids st with
    | some st => next st
    | none => none
  | .exit id => match norm h n ids st with
    | some st => K (.exit id) st
    | none => none
  | .ret => K .ret { st with f := retF st.f h.boxes }

/-- so many rounds more, from a loop's head -/
def iter (h : Hint) (n : Nat) (ids : List Nat) (F : ASt → (AExit → ASt → Option R) → Option R) (K : AExit → ASt → Option R) : Nat → ASt → Option R
  | 0, st => F st (knot h n ids K fun _ => none)
  | k + 1, st => F st (knot h n ids K (iter h n ids F K k))

def keysOf : Hp → List Nat
  | [] => []
  | (id, _) :: r => id :: keysOf r
def dropN {α : Type} : Nat → List α → List α
  | 0, l => l
  | _ + 1, [] => []
  | n + 1, _ :: r => dropN n r

def codeA (D : Ctx) : Code → ASt → (AExit → ASt → Option R) → Option R
  | .skip, st, K => K .normal st
  | .label _, st, K => K .normal st
  | .region _ ops false, st, K => opsA D ops ops.toList st fun st => K .normal st
  | .region _ ops true, st, K => drawA D ops ops.toList 0 [] st fun st => K .normal st
  | .seq a b, st, K => codeA D a st fun ex st' => match ex with
    | .normal => codeA D b st' K
    | .exit id => K (.exit id) st'
    | .ret => K .ret st'
  | .cond c x y, st, K => match ev st.f c with
    | .v (.bool b) => br b (codeA D x st K) (codeA D y st K)
    | _ => none
  | .block id c, st, K => codeA D c st fun ex st' => match ex with
    | .normal => K .normal st'
    | .exit j => bif Nat.beq j id then K .normal st' else K (.exit j) st'
    | .ret => K .ret st'
  | .loop c, st, K => match norm (hintOf D.hints (firstRegion c)) st.n (idsOf st.h []) st with
    | none => none
    | some st => match lassoc D.loops (firstRegion c) with
      | some s => s st K
      | none => none
  | .exit id, st, K => K (.exit id) st
  | .ret, st, K => K .ret st
  | _, _, _ => none

/-- the loops of a code -/
def loopsOf : Code → List Code
  | .seq a b => loopsOf a ++ loopsOf b
  | .cond _ a b => loopsOf a ++ loopsOf b
  | .block _ c => loopsOf c
  | .loop c => c :: loopsOf c
  | _ => []

/-- the rounds of a loop, from its head on -/
def itA (D : Ctx) (c : Code) (K : AExit → ASt → Option R) (k : Nat) (st : ASt) : Option R :=
  iter (hintOf D.hints (firstRegion c)) (st.n - (hintOf D.hints (firstRegion c)).rows.length) (keysOf (dropN (hintOf D.hints (firstRegion c)).rows.length st.h)) (codeA D c) K k st

/-- a loop's contract -/
def LoopOk (D : Ctx) (c : Code) : Prop := ∀ s, lassoc D.loops (firstRegion c) = some s → ∀ st K r, s st K = some r → ∃ k, itA D c K k st = some r

/-! ### Functions -/
mutual
def winIds : AVal → List Nat
  | .win j _ _ | .awin j _ _ _ _ => [j]
  | .agg l | .tuple l => winIdsL l
  | .fn _ a b => lcat (rowIdsL a) (rowIdsL b)
  | .iface _ x => rowIds x
  | _ => []
def winIdsL : List AVal → List Nat
  | [] => []
  | a :: r => lcat (winIds a) (winIdsL r)
end

mutual
/-- a result as it is handed back -/
def xres (hl : Nat → Option Blk) : AVal → AVal
  | .own id => match hl id with
    | some ⟨.row e c, false⟩ => .fr e c
    | some ⟨.row _ c, true⟩ => .sl c
    | _ => .bot
  | .agg l => .agg (xresL hl l)
  | .tuple l => .tuple (xresL hl l)
  | a => xport hl a
def xresL (hl : Nat → Option Blk) : List AVal → List AVal
  | [] => []
  | a :: r => xres hl a :: xresL hl r
end

mutual
/-- own rows that are handed back -/
def ownIds : AVal → List Nat
  | .own j => [j]
  | .agg l | .tuple l => ownIdsL l
  | _ => []
def ownIdsL : List AVal → List Nat
  | [] => []
  | a :: r => lcat (ownIds a) (ownIdsL r)
end

def nodupN : List Nat → Bool
  | [] => true
  | a :: r => !memN a r && nodupN r

/-- where nil is to be a row of its own -/
def sig1 : Option (TypeId × Cont) → AVal → AVal
  | some (e, c), .v (.slice none 0 0) => bif Nat.beq c.len 0 then .fr e c else .v (.slice none 0 0)
  | _, a => a
def sigA : List (Option (TypeId × Cont)) → List AVal → List AVal
  | _, [] => []
  | [], l => l
  | s :: ss, a :: r => sig1 s a :: sigA ss r

def resV (f : List (Nat × AVal)) : List ResultVar → Option (List AVal)
  | [] => some []
  | .tmp t :: r => match resV f r with
    | some l => some (look f t :: l)
    | none => none
  | .cell _ _ :: _ => none

def oneOf : List AVal → AVal
  | [a] => a
  | l => .tuple l

def outA (sig : List (Option (TypeId × Cont))) (fn : Func) (st : ASt) (K : AVal → Option R) : Option R :=
  match resV st.f fn.results.toList with
  | none => none
  | some l =>
    bif nodupN (ownIdsL l) then K (oneOf (sigA sig (xresL (hlook (lcat (freeze (hlook st.h) (winIdsL l) []) st.h)) l))) else none

def initF : Nat → List AVal → List (Nat × AVal)
  | _, [] => []
  | i, a :: r => (i, a) :: initF (i + 1) r

def bodyA (D : Ctx) (fn : Func) (sig : List (Option (TypeId × Cont))) (args : List AVal) (K : AVal → Option R) : Option R :=
  match fn.body with
  | none => none
  | some c => bif Nat.ble args.length fn.ntmps then
      codeA D c ⟨initF 0 args, [], 0, fn.ntmps⟩ fun ex st => match ex with
        | .exit _ => none
        | .normal => outA sig fn st K
        | .ret => outA sig fn st K
    else none

/-- a function's body within its caller's memory -/
def bodyIn (D : Ctx) (fn : Func) : ISpec := fun args h n K =>
  match fn.body with
  | none => none
  | some c => bif Nat.ble args.length fn.ntmps then
      codeA D c ⟨initF 0 args, h, n, fn.ntmps⟩ fun ex st => match ex with
        | .exit _ => none
        | .normal => outIn fn st K
        | .ret => outIn fn st K
    else none
where outIn (fn : Func) (st : ASt) (K : AVal → Hp → Nat → Option R) : Option R :=
  match resV st.f fn.results.toList with
  | none => none
  | some l => K (oneOf l) st.h st.n

end Go.Abs
