/-
  XmssRight, part 5: an interpreter of my own over abstract values, the pure functions, the walks and the plain law.
-/

import Derived.Test.YtjhnljhjpnjieaaDoorXmssRightD

namespace Go.Abs
open Go Go.RowKit
set_option linter.unusedVariables false
set_option linter.unusedSimpArgs false
def guardT (ops : Array Oper) (j : Nat) : Option Nat := (ops[j]?).bind (·.dst)
def guardA (ops : Array Oper) (o : Oper) (st : ASt) (F : ASt → Option R) (S : ASt → Option R) : Option R :=
 match o.guard with
 | none => F st
 | some (j, want) => match guardT ops j with
  | none => none
  | some t => match look st.f t with
   | .v (.bool b) => br b (bif want then F (st.put (some t) (.v (.bool true))) else S (st.put (some t) (.v (.bool true)))) (bif want then S (st.put (some t) (.v (.bool false))) else F (st.put (some t) (.v (.bool false))))
   | .v (.tuple _) => S st
   | _ => none
def iassoc : List (Nat × ISpec) → Nat → Option ISpec
 | [], _ => none
 | (k, s) :: r, t => bif Nat.beq k t then some s else iassoc r t
def fnOf (f : List (Nat × AVal)) : Op → Option (Nat × List AVal)
 | .call { callee := .value x, args, .. } => match ev f x with
  | .fn (.func g) first caps => some (g, lcat first (lcat (evs f args.toList) caps))
  | _ => none
 | _ => none
def inlOf (D : Ctx) (f : List (Nat × AVal)) (op : Op) : Option (ISpec × List AVal) :=
 match fnOf f op with
 | some (g, as) => match iassoc D.inl g with
  | some s => some (s, as)
  | none => none
 | none => none
def yldOf (f : List (Nat × AVal)) : Op → Option (List Nat × List AVal × List AVal)
 | .call { callee := .value x, args, .. } => match ev f x with
  | .yld _ ts vs => some (ts, vs, evs f args.toList)
  | _ => none
 | _ => none
def doA (D : Ctx) (o : Oper) (st : ASt) (K : ASt → Option R) : Option R :=
 match yldOf st.f o.op with
 | some (ts, vs, as) => match D.ys with
  | some s => s ts vs as st.h st.n fun h n => K { f := putF st.m o.dst (.v (.bool true)) st.f, h := h, n := n, m := st.m }
  | none => none
 | none => match inlOf D st.f o.op with
 | some (s, as) => s as st.h st.n fun v h n => K { f := putF st.m o.dst v st.f, h := h, n := n, m := st.m }
 | none => opA D o st fun e => K (st.app e o.dst)
def opsA (D : Ctx) (ops : Array Oper) : List Oper → ASt → (ASt → Option R) → Option R
 | [], st, K => K st
 | o :: rest, st, K => guardA ops o st (fun st => doA D o st fun st => opsA D ops rest st K) (fun st => opsA D ops rest (st.put o.dst (.v undef)) K)
structure Info where
 looks : List Nat
 dst : Option Nat
 vs : List AVal
 puts : Hp
 cl : List Nat
def tmpsOf : List Operand → List Nat
 | [] => []
 | .tmp t :: r => t :: tmpsOf r
 | _ :: r => tmpsOf r
def nth {α : Type} : List α → Nat → Option α
 | [], _ => none
 | a :: _, 0 => some a
 | _ :: r, n + 1 => nth r n
def lun : List Nat → List Nat → List Nat
 | [], l => l
 | a :: r, l => bif memN a l then lun r l else a :: lun r l
def cloA (acc : List Info) (i : Nat) : List Edge → Option (List Nat)
 | [] => some []
 | e :: r => bif Region.binds .any e then
     bif Nat.blt e.on i then
      match nth acc (i - 1 - e.on), cloA acc i r with
      | some x, some l => some (lun (e.on :: x.cl) l)
      | _, _ => none
     else none
  else cloA acc i r
def dstHits (d : Option Nat) (l : List Nat) : Bool :=
 match d with
 | none => false
 | some d => memN d l
def dstSame (d d' : Option Nat) : Bool :=
 match d, d' with
 | some d, some d' => Nat.beq d d'
 | _, _ => false
def putsHit : Hp → List AVal → Hp → Bool
 | [], _, _ => false
 | (id, _) :: r, vs, h => mentionsL id vs || (assoc h id).isSome || putsHit r vs h
def apartI (x y : Info) : Bool :=
 !(dstHits x.dst y.looks || dstHits y.dst x.looks || dstSame x.dst y.dst || putsHit x.puts y.vs y.puts || putsHit y.puts x.vs x.puts)
def fitsA : List Info → Nat → Info → Bool
 | [], _, _ => true
 | x :: r, n, y => (memN (n - 1) y.cl || apartI x y) && fitsA r (n - 1) y
def gLooks (ops : Array Oper) (o : Oper) : List Nat :=
 match o.guard with
 | some (j, _) => (guardT ops j).toList
 | none => []
def infoDo (ops : Array Oper) (o : Oper) (vs : List AVal) (puts : Hp) (cl : List Nat) : Info := ⟨lcat (gLooks ops o) (tmpsOf (opnds o.op)), o.dst, vs, puts, cl⟩
def infoSkip (ops : Array Oper) (o : Oper) (cl : List Nat) : Info := ⟨gLooks ops o, o.dst, [], [], cl⟩
def drawIf (acc : List Info) (i : Nat) (I : Info) (F : List Info → Option R) : Option R := bif fitsA acc i I then F (I :: acc) else none
def heapVals (op : Op) (vs : List AVal) : List AVal :=
 match op with
 | .move _ | .assign _ | .pick _ _ _ | .nilCheck _ | .makeFunc _ _ _ | .makeInterface _ _ | .fieldAddr _ _ _ | .box _ _ => []
 | _ => vs
def opD (D : Ctx) (o : Oper) (st : ASt) (K : Eff → Option R) : Option R :=
 core D o.op (evs st.f (opnds o.op)) (mask (heapVals o.op (evs st.f (opnds o.op))) st.h) st.n K
def drawA (D : Ctx) (ops : Array Oper) : List Oper → Nat → List Info → ASt → (List Info → ASt → Option R) → Option R
 | [], _, acc, st, K => K acc st
 | o :: rest, i, acc, st, K =>
  match cloA acc i o.after.toList with
  | none => none
  | some cl =>
   guardA ops o st
    (fun st => opD D o st fun e => drawIf acc i (infoDo ops o (heapVals o.op (evs st.f (opnds o.op))) e.puts cl) fun acc => drawA D ops rest (i + 1) acc (st.app e o.dst) K)
    (fun st => drawIf acc i (infoSkip ops o cl) fun acc => drawA D ops rest (i + 1) acc (st.put o.dst (.v undef)) K)
def splitL {α : Type} : List α → Option (List α × α)
 | [] => none
 | a :: r => match splitL r with
  | some (x, y) => some (a :: x, y)
  | none => some ([], a)
def allIn : Nat → List Nat → Bool
 | 0, _ => true
 | n + 1, l => memN n l && allIn n l
def drawX (D : Ctx) (ops : Array Oper) (st : ASt) (K : ASt → Option R) : Option R :=
 match splitL ops.toList with
 | some (l0, o) => bif (inlOf D [] o.op).isSome && o.guard.isNone then
     drawA D ops l0 0 [] st fun acc st => match cloA acc l0.length o.after.toList with
      | some cl => bif allIn l0.length cl then doA D o st K else none
      | none => none
  else drawA D ops ops.toList 0 [] st fun _ => K
 | none => drawA D ops ops.toList 0 [] st fun _ => K
def firstRegion : Code → Nat
 | .region id _ _ => id
 | .seq a _ => firstRegion a
 | .block _ b => firstRegion b
 | .loop b => firstRegion b
 | .scope b => firstRegion b
 | _ => 0
def hintOf : List (Nat × Hint) → Nat → Hint
 | [], _ => ⟨[], [], [], [], none, [], []⟩
 | (k, h) :: r, t => bif Nat.beq k t then h else hintOf r t
def bndB (n : Nat) : Bk → Bool
 | .row _ _ => true
 | .box _ l => bndL n l
def keepF (f : List (Nat × AVal)) (n : Nat) : List Nat → Option (List (Nat × AVal))
 | [] => some []
 | t :: r => bif bnd n (look f t) then
     match keepF f n r with
     | some l => some ((t, look f t) :: l)
     | none => none
  else none
def keepR (g : Nat → AVal) (h : Hp) : Nat → List (Nat × TypeId × Cont) → Option (List (Nat × AVal) × Hp × List Nat)
 | _, [] => some ([], [], [])
 | n, (t, e, c0) :: r => match keepR g h (n + 1) r with
  | none => none
  | some (fs, hs, us) => match g t with
   | .own id => match hlook h id with
    | some ⟨.row e' c, false⟩ => bif Nat.beq e e' && !memN id us then some ((t, .own n) :: fs, (n, some ⟨.row e c, false⟩) :: hs, id :: us) else none
    | _ => none
   | .win id 0 len => match hlook h id with
    | some ⟨.row e' c, false⟩ => bif Nat.beq e e' && !memN id us then some ((t, .own n) :: fs, (n, some ⟨.row e (c.take len), false⟩) :: hs, id :: us) else none
    | _ => none
   | .v (.slice none 0 0) => bif Nat.beq c0.len 0 then some ((t, .own n) :: fs, (n, some ⟨.row e c0, false⟩) :: hs, us) else none
   | _ => none
def keepH (h : Hp) (n : Nat) (us : List Nat) : List Nat → Option Hp
 | [] => some []
 | id :: r => match keepH h n us r with
  | none => none
  | some l => bif memN id us then some ((id, none) :: l) else
   match hlook h id with
   | none => some ((id, none) :: l)
   | some b => bif bndB n b.b && Nat.blt id n then some ((id, some b) :: l) else none
def idsOf : Hp → List Nat → List Nat
 | [], acc => acc
 | (id, _) :: r, acc => bif memN id acc then idsOf r acc else idsOf r (id :: acc)
def shareF (hl : Nat → Option Blk) (f : List (Nat × AVal)) : List (Nat × Sh) → List (Nat × AVal)
 | [] => []
 | (t, s) :: r => (t, coerV s (xport hl (look f t))) :: shareF hl f r
def shareI (f : List (Nat × AVal)) : List (Nat × Sh) → List Nat
 | [] => []
 | (t, _) :: r => lcat (rowIds (look f t)) (shareI f r)
def shareSt (l : List (Nat × Sh)) (st : ASt) : ASt :=
 match l with
 | [] => st
 | l => { st with f := lcat (shareF (hlook st.h) st.f l) st.f, h := lcat (freeze (hlook st.h) (shareI st.f l) []) st.h }
def shRow : AVal → Bool
 | .own _ | .win _ _ _ => true
 | _ => false
def shOne (hl : Nat → Option Blk) (a : AVal) : AVal := bif shRow a then xport hl a else a
def shList (hl : Nat → Option Blk) : List AVal → List AVal
 | [] => []
 | a :: r => shOne hl a :: shList hl r
def shIdsL : List AVal → List Nat
 | [] => []
 | a :: r => bif shRow a then lcat (rowIds a) (shIdsL r) else shIdsL r
def shIds (h : Hp) : List Nat → List Nat
 | [] => []
 | id :: r => match hlook h id with
  | some ⟨.box _ l, _⟩ => lcat (shIdsL l) (shIds h r)
  | _ => shIds h r
def shBoxes (hl : Nat → Option Blk) (h : Hp) : List Nat → Hp
 | [] => []
 | id :: r => match hlook h id with
  | some ⟨.box e l, f⟩ => (id, some ⟨.box e (shList hl l), f⟩) :: shBoxes hl h r
  | _ => shBoxes hl h r
def shareB (ids : List Nat) (st : ASt) : ASt :=
 match ids with
 | [] => st
 | ids => { st with h := lcat (shBoxes (hlook st.h) (lcat (freeze (hlook st.h) (shIds st.h ids) []) st.h) ids) (lcat (freeze (hlook st.h) (shIds st.h ids) []) st.h) }
def ptrIds : List AVal → List Nat
 | [] => []
 | .ptr j 0 :: r => j :: ptrIds r
 | _ :: r => ptrIds r
def capIds (f : List (Nat × AVal)) : List Oper → List Nat
 | [] => []
 | o :: r => match o.op with
  | .makeFunc _ first captured => lun (lcat (ptrIds (evs f first.toList)) (ptrIds (evs f captured.toList))) (capIds f r)
  | _ => capIds f r
def staV (id : Nat) (l : List AVal) : AVal → AVal
 | .ptr j 0 => bif Nat.beq id j then .sta l else .ptr j 0
 | a => a
def staF (id : Nat) (l : List AVal) : List (Nat × AVal) → List (Nat × AVal)
 | [] => []
 | (t, a) :: r => (t, staV id l a) :: staF id l r
def staOne (id : Nat) (st : ASt) : ASt :=
 match hlook st.h id with
 | some ⟨.box _ l, _⟩ => bif bndL 0 l then { st with f := staF id l st.f, h := lcat (freeze (hlook st.h) [id] []) st.h } else st
 | _ => st
def staAll : List Nat → ASt → ASt
 | [], st => st
 | id :: r, st => staAll r (staOne id st)
def staR (D : Ctx) (ops : List Oper) (st : ASt) : ASt := bif D.sta then staAll (capIds st.f ops) (shareB (capIds st.f ops) st) else st
def coB (h : Hp) : List (Nat × List Sh) → Hp
 | [] => []
 | (id, s) :: r => match hlook h id with
  | some ⟨.box e l, f⟩ => (id, some ⟨.box e (coerL s l), f⟩) :: coB h r
  | _ => coB h r
def coerB (l : List (Nat × List Sh)) (st : ASt) : ASt :=
 match l with
 | [] => st
 | l => { st with h := lcat (coB st.h l) st.h }
def headSt (h : Hint) (st : ASt) : ASt := coerB h.shc (shareB h.shb (shareSt h.sls st))
def headIds (h : Hint) (st : ASt) : List Nat :=
 match h.gc with
 | none => idsOf st.h []
 | some (_, l) => l
def headN (h : Hint) (n : Nat) : Nat :=
 match h.gc with
 | none => n
 | some (m, _) => bif Nat.ble n m then m else n
def boxCell (h : Hp) (b : Nat) : AVal := match hlook h b with
 | some ⟨.box _ [.own j], _⟩ => .own j
 | some ⟨.box _ [.v (.slice none 0 0)], _⟩ => .v (.slice none 0 0)
 | _ => .bot
def rowSrc (st : ASt) (t : Nat) : AVal := bif Nat.blt t 1000000 then look st.f t else boxCell st.h (t - 1000000)
def bigs : List (Nat × TypeId × Cont) → List Nat
 | [] => []
 | (t, _, _) :: r => bif Nat.blt t 1000000 then bigs r else (t - 1000000) :: bigs r
def clr (h : Hp) : List Nat → Hp
 | [] => []
 | b :: r => match hlook h b with
  | some ⟨.box e [.own _], f⟩ => (b, some ⟨.box e [.bot], f⟩) :: clr h r
  | some ⟨.box e [.v (.slice none 0 0)], f⟩ => (b, some ⟨.box e [.bot], f⟩) :: clr h r
  | _ => clr h r
def clrB (h : Hp) (l : List Nat) : Hp := match l with
 | [] => h
 | l => lcat (clr h l) h
def slotsOf : List (Nat × AVal) → List (Nat × AVal)
 | [] => []
 | (t, x) :: r => bif Nat.blt t 1000000 then (t, x) :: slotsOf r else slotsOf r
def patO (fs : List (Nat × AVal)) (id : Nat) (b : Option Blk) : Option Blk := match b with
 | some ⟨.box e [.bot], f⟩ => match assoc fs (id + 1000000) with
  | some x => some ⟨.box e [x], f⟩
  | none => b
 | _ => b
def patM (fs : List (Nat × AVal)) : Hp → Hp
 | [] => []
 | (id, b) :: r => (id, patO fs id b) :: patM fs r
def patB (fs : List (Nat × AVal)) (l : List Nat) (h : Hp) : Hp := match l with
 | [] => h
 | _ => patM fs h
def norm (h : Hint) (n : Nat) (ids : List Nat) (st : ASt) : Option ASt :=
 match keepR (rowSrc st) (clrB st.h (bigs h.rows)) n h.rows with
 | none => none
 | some (fs, hs, us) => match keepF st.f n h.keep, keepH (clrB st.h (bigs h.rows)) n us ids with
  | some f, some hh => some { f := lcat (slotsOf fs) f, h := patB fs (bigs h.rows) (lcat hs hh), n := n + h.rows.length, m := st.m }
  | _, _ => none
def lassoc : List (Nat × LSpec) → Nat → Option LSpec
 | [], _ => none
 | (k, s) :: r, t => bif Nat.beq k t then some s else lassoc r t
def retF (f : List (Nat × AVal)) : List Nat → List (Nat × AVal)
 | [] => []
 | t :: r => (t, look f t) :: retF f r
def knot (h : Hint) (n : Nat) (ids : List Nat) (K : AExit → ASt → Option R) (next : ASt → Option R) (ex : AExit) (st : ASt) : Option R :=
 match ex with
 | .normal => match norm h n ids (headSt h st) with
  | some st => next st
  | none => none
 | .exit id => match norm h n ids (headSt h st) with
  | some st => K (.exit id) st
  | none => none
 | .ret => K .ret { st with f := retF st.f h.boxes }
def iter (h : Hint) (n : Nat) (ids : List Nat) (F : ASt → (AExit → ASt → Option R) → Option R) (K : AExit → ASt → Option R) : Nat → ASt → Option R
 | 0, st => F st (knot h n ids K fun _ => none)
 | k + 1, st => F st (knot h n ids K (iter h n ids F K k))
def keysOf : Hp → List Nat
 | [] => []
 | (id, _) :: r => id :: keysOf r
def dropN {α : Type} : Nat → List α → List α
 | 0, l => l
 | _ + 1, [] => []
 | n + 1, _ :: r => dropN n r
def rassoc : List (Nat × RngE) → Nat → Option RngE
 | [], _ => none
 | (k, s) :: r, t => bif Nat.beq k t then some s else rassoc r t
def looks (f : List (Nat × AVal)) : List Nat → List AVal
 | [] => []
 | t :: r => look f t :: looks f r
def freeH (id : Nat) : Hp → Bool
 | [] => true
 | (_, some ⟨.box _ l, _⟩) :: r => !mentionsL id l && freeH id r
 | _ :: r => freeH id r
def noY : Option YCtx → Bool
 | none => true
 | some _ => false
def rngOf (D : Ctx) (st : ASt) (g : Operand) (body : Code) : Option (RngE × List AVal × List AVal) :=
 match ev st.f g with
 | .fn (.func gid) first caps => match rassoc D.rng (firstRegion body) with
  | some e => bif D.top && noY D.y && Nat.beq gid e.g && Nat.beq st.m e.m then some (e, first, caps) else none
  | none => none
 | _ => none
def codeA (D : Ctx) : Code → ASt → (AExit → ASt → Option R) → Option R
 | .skip, st, K => K .normal st
 | .label _, st, K => K .normal st
 | .region _ ops false, st, K => opsA D ops ops.toList (staR D ops.toList st) fun st => K .normal st
 | .region _ ops true, st, K => drawX D ops (staR D ops.toList st) fun st => K .normal st
 | .seq a b, st, K => codeA D a st fun ex st' => match ex with
  | .normal => codeA D b st' K
  | .exit id => K (.exit id) st'
  | .ret => K .ret st'
 | .cond c x y, st, K => match ev st.f c with
  | .v (.bool b) => br b (codeA D x st K) (codeA D y st K)
  | _ => none
 | .block id c, st, K => codeA D c st fun ex st' => match ex with
  | .normal => K .normal st'
  | .exit j => bif Nat.beq j id then K .normal st' else K (.exit j) st'
  | .ret => K .ret st'
 | .loop c, st, K => match norm (hintOf D.hints (firstRegion c)) (headN (hintOf D.hints (firstRegion c)) st.n) (headIds (hintOf D.hints (firstRegion c)) (headSt (hintOf D.hints (firstRegion c)) st)) (headSt (hintOf D.hints (firstRegion c)) st) with
  | none => none
  | some st => match lassoc D.loops (firstRegion c) with
   | some s => s st K
   | none => none
 | .exit id, st, K => K (.exit id) st
 | .ret, st, K => K .ret st
 | .rangeFunc g _ _ body, st, K => match rngOf D st g body with
  | some (e, first, caps) => e.s (lcat first (.yld st.n e.ts (looks st.f e.ts) :: caps)) st.h (st.n + 1) fun _ h n => bif freeH st.n h then K .normal { f := st.f, h := h, n := n, m := st.m } else none
  | none => none
 | _, _, _ => none
def loopsOf : Code → List Code
 | .seq a b => loopsOf a ++ loopsOf b
 | .cond _ a b => loopsOf a ++ loopsOf b
 | .block _ c => loopsOf c
 | .loop c => c :: loopsOf c
 | _ => []
def rangesOf : Code → List Code
 | .seq a b => rangesOf a ++ rangesOf b
 | .cond _ a b => rangesOf a ++ rangesOf b
 | .block _ c => rangesOf c
 | .loop c => rangesOf c
 | .rangeFunc g ps a b => [.rangeFunc g ps a b]
 | _ => []
def zipF : List Nat → List AVal → List (Nat × AVal)
 | t :: ts, a :: r => (t, a) :: zipF ts r
 | _, _ => []
def allLt (m : Nat) : List Nat → Bool
 | [] => true
 | t :: r => Nat.blt t m && allLt m r
def itA (D : Ctx) (c : Code) (K : AExit → ASt → Option R) (k : Nat) (st : ASt) : Option R :=
 iter (hintOf D.hints (firstRegion c)) (st.n - (hintOf D.hints (firstRegion c)).rows.length) (keysOf (dropN (hintOf D.hints (firstRegion c)).rows.length st.h)) (codeA D c) K k st
def LoopOk (D : Ctx) (c : Code) : Prop := ∀ s, lassoc D.loops (firstRegion c) = some s → ∀ st K r, s st K = some r → ∃ k, itA D c K k st = some r
mutual
def winIds : AVal → List Nat
 | .win j _ _ | .awin j _ _ _ _ => [j]
 | .agg l | .tuple l => winIdsL l
 | .fn _ a b => lcat (rowIdsL a) (rowIdsL b)
 | .alt _ _ a b _ c d => lcat (lcat (rowIdsL a) (rowIdsL b)) (lcat (rowIdsL c) (rowIdsL d))
 | .iface _ x => rowIds x
 | _ => []
def winIdsL : List AVal → List Nat
 | [] => []
 | a :: r => lcat (winIds a) (winIdsL r)
end
mutual
def xres (hl : Nat → Option Blk) : AVal → AVal
 | .own id => match hl id with
  | some ⟨.row e c, false⟩ => .fr e c
  | some ⟨.row _ c, true⟩ => .sl c
  | _ => .bot
 | .agg l => .agg (xresL hl l)
 | .tuple l => .tuple (xresL hl l)
 | a => xport hl a
def xresL (hl : Nat → Option Blk) : List AVal → List AVal
 | [] => []
 | a :: r => xres hl a :: xresL hl r
end
mutual
def ownIds : AVal → List Nat
 | .own j => [j]
 | .agg l | .tuple l => ownIdsL l
 | _ => []
def ownIdsL : List AVal → List Nat
 | [] => []
 | a :: r => lcat (ownIds a) (ownIdsL r)
end
def nodupN : List Nat → Bool
 | [] => true
 | a :: r => !memN a r && nodupN r
mutual
def sigV : Sh → AVal → AVal
 | .sl c, a => nilTo c (.sl c) a
 | .fr e c, a => nilTo c (.fr e c) a
 | .agg ss, .agg l => .agg (sigA ss l)
 | .agg ss, .fn f a c => .fn f a (coerL ss c)
 | .alt f fa fc g ga gc, a => altTo f fa fc g ga gc a
 | _, a => a
def sigA : List Sh → List AVal → List AVal
 | s :: ss, a :: r => sigV s a :: sigA ss r
 | _, l => l
end
mutual
def giveIds : Sh → AVal → List Nat
 | .sl _, .own j => [j]
 | .agg ss, .agg l => giveIdsL ss l
 | _, _ => []
def giveIdsL : List Sh → List AVal → List Nat
 | s :: ss, a :: r => lcat (giveIds s a) (giveIdsL ss r)
 | _, _ => []
end
def cellV (D : Ctx) (st : ASt) (t : Nat) (ty : TypeId) : Option AVal :=
 match isAggT D.P ty, cellsT D.P ty with
 | some g, some sz => match placeOf D (hlook st.h) (look st.f t) sz with
  | some mid => bif g then some (aggOf mid) else match mid with
   | [.arr ..] => none
   | [a] => some a
   | _ => none
  | none => none
 | _, _ => none
def resV (D : Ctx) (st : ASt) : List ResultVar → Option (List AVal)
 | [] => some []
 | .tmp t :: r => match resV D st r with
  | some l => some (look st.f t :: l)
  | none => none
 | .cell t ty :: r => match cellV D st t ty, resV D st r with
  | some a, some l => some (a :: l)
  | _, _ => none
def oneOf : List AVal → AVal
 | [a] => a
 | l => .tuple l
def outA (D : Ctx) (sig : List Sh) (fn : Func) (st : ASt) (K : AVal → Option R) : Option R :=
 match resV D st fn.results.toList with
 | none => none
 | some l =>
  bif nodupN (ownIdsL l) then K (oneOf (sigA sig (xresL (hlook (lcat (freeze (hlook st.h) (lcat (winIdsL l) (giveIdsL sig l)) []) st.h)) l))) else none
def roundY (D : Ctx) (Y : YCtx) : YSpec := fun ts vs args h n K =>
 bif Nat.beq args.length Y.ps.size && nodupN Y.ps.toList && allLt Y.m Y.ps.toList then
  codeA D Y.assign ⟨lcat (zipF Y.ps.toList args) (zipF ts vs), h, n, Y.m⟩ fun ex st => match ex with
   | .normal => codeA D Y.body st fun ex st => match ex with
    | .normal => K st.h st.n
    | _ => none
   | _ => none
 else none
def initF : Nat → List AVal → List (Nat × AVal)
 | _, [] => []
 | i, a :: r => (i, a) :: initF (i + 1) r
def bodyA (D : Ctx) (fn : Func) (sig : List Sh) (args : List AVal) (K : AVal → Option R) : Option R :=
 match fn.body with
 | none => none
 | some c => bif Nat.ble args.length fn.ntmps then
     codeA D c ⟨initF 0 args, [], 0, fn.ntmps⟩ fun ex st => match ex with
      | .exit _ => none
      | .normal => outA D sig fn st K
      | .ret => outA D sig fn st K
  else none
def bodyIn (D : Ctx) (fn : Func) : ISpec := fun args h n K =>
 match fn.body with
 | none => none
 | some c => bif Nat.ble args.length fn.ntmps then
     codeA D c ⟨initF 0 args, h, n, fn.ntmps⟩ fun ex st => match ex with
      | .exit _ => none
      | .normal => outIn D fn st K
      | .ret => outIn D fn st K
  else none
 where outIn (D : Ctx) (fn : Func) (st : ASt) (K : AVal → Hp → Nat → Option R) : Option R :=
 match resV D st fn.results.toList with
 | none => none
 | some l => K (oneOf l) st.h st.n
end Go.Abs
