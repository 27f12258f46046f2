/-
  HssSigns, part 5: an interpreter of my own over abstract values, the pure functions, the walks and the plain law.
-/

import Derived.Test.YtmipokjdajiimaaGreatDoorHssSignsD

namespace Go.Abs
open Go Go.RowKit
set_option linter.unusedVariables false
set_option linter.unusedSimpArgs false
def au6 (ops : Array Oper) (j : Nat) : Option Nat := (ops[j]?).bind (·.dst)
def bi4 (ops : Array Oper) (o : Oper) (st : ASt) (F : ASt → Option R) (S : ASt → Option R) : Option R :=
 match o.guard with
 | none => F st
 | some (j, want) => match au6 ops j with
  | none => none
  | some t => match look st.f t with
   | .v (.bool b) => br b (bif want then F (st.put (some t) (.v (.bool true))) else S (st.put (some t) (.v (.bool true)))) (bif want then S (st.put (some t) (.v (.bool false))) else F (st.put (some t) (.v (.bool false))))
   | .v (.tuple _) => S st
   | _ => none
def avu : List (Nat × ayi) → Nat → Option ayi
 | [], _ => none
 | (k, s) :: r, t => bif Nat.beq k t then some s else avu r t
def byg (f : List (Nat × AVal)) : Op → Option (Nat × List AVal)
 | .call { callee := .value x, args, .. } => match ev f x with
  | .fn (.func g) first caps => some (g, mq first (mq (evs f args.toList) caps))
  | _ => none
 | _ => none
def bp8 (D : Ctx) (f : List (Nat × AVal)) (op : Op) : Option (ayi × List AVal) :=
 match byg f op with
 | some (g, as) => match avu D.inl g with
  | some s => some (s, as)
  | none => none
 | none => none
def brx (f : List (Nat × AVal)) : Op → Option (List Nat × List AVal × List AVal)
 | .call { callee := .value x, args, .. } => match ev f x with
  | .yld _ ts vs => some (ts, vs, evs f args.toList)
  | _ => none
 | _ => none
def doA (D : Ctx) (o : Oper) (st : ASt) (K : ASt → Option R) : Option R :=
 match brx st.f o.op with
 | some (ts, vs, as) => match D.ys with
  | some s => s ts vs as st.h st.n fun h n => K { f := bsl st.m o.dst (.v (.bool true)) st.f, h := h, n := n, m := st.m }
  | none => none
 | none => match bp8 D st.f o.op with
 | some (s, as) => s as st.h st.n fun v h n => K { f := bsl st.m o.dst v st.f, h := h, n := n, m := st.m }
 | none => opA D o st fun e => K (st.app e o.dst)
def btc (D : Ctx) (ops : Array Oper) : List Oper → ASt → (ASt → Option R) → Option R
 | [], st, K => K st
 | o :: rest, st, K => bi4 ops o st (fun st => doA D o st fun st => btc D ops rest st K) (fun st => btc D ops rest (st.put o.dst (.v undef)) K)
structure Info where
 looks : List Nat
 dst : Option Nat
 vs : List AVal
 puts : Hp
 cl : List Nat
def tmpsOf : List Operand → List Nat
 | [] => []
 | .tmp t :: r => t :: tmpsOf r
 | _ :: r => tmpsOf r
def nth {α : Type} : List α → Nat → Option α
 | [], _ => none
 | a :: _, 0 => some a
 | _ :: r, n + 1 => nth r n
def lun : List Nat → List Nat → List Nat
 | [], l => l
 | a :: r, l => bif aun a l then lun r l else a :: lun r l
def bor (acc : List Info) (i : Nat) : List Edge → Option (List Nat)
 | [] => some []
 | e :: r => bif Region.binds .any e then
     bif Nat.blt e.on i then
      match nth acc (i - 1 - e.on), bor acc i r with
      | some x, some l => some (lun (e.on :: x.cl) l)
      | _, _ => none
     else none
  else bor acc i r
def bbj (d : Option Nat) (l : List Nat) : Bool :=
 match d with
 | none => false
 | some d => aun d l
def ave (d d' : Option Nat) : Bool :=
 match d, d' with
 | some d, some d' => Nat.beq d d'
 | _, _ => false
def anv : Hp → List AVal → Hp → Bool
 | [], _, _ => false
 | (id, _) :: r, vs, h => l9 id vs || (assoc h id).isSome || anv r vs h
def aww (x y : Info) : Bool :=
 !(bbj x.dst y.looks || bbj y.dst x.looks || ave x.dst y.dst || anv x.puts y.vs y.puts || anv y.puts x.vs x.puts)
def be6 : List Info → Nat → Info → Bool
 | [], _, _ => true
 | x :: r, n, y => (aun (n - 1) y.cl || aww x y) && be6 r (n - 1) y
def biy (ops : Array Oper) (o : Oper) : List Nat :=
 match o.guard with
 | some (j, _) => (au6 ops j).toList
 | none => []
def bqg (ops : Array Oper) (o : Oper) (vs : List AVal) (puts : Hp) (cl : List Nat) : Info := ⟨mq (biy ops o) (tmpsOf (ako o.op)), o.dst, vs, puts, cl⟩
def bcg (ops : Array Oper) (o : Oper) (cl : List Nat) : Info := ⟨biy ops o, o.dst, [], [], cl⟩
def bii (acc : List Info) (i : Nat) (I : Info) (F : List Info → Option R) : Option R := bif be6 acc i I then F (I :: acc) else none
def bap (op : Op) (vs : List AVal) : List AVal :=
 match op with
 | .move _ | .assign _ | .pick _ _ _ | .nilCheck _ | .makeFunc _ _ _ | .makeInterface _ _ | .fieldAddr _ _ _ | .box _ _ => []
 | _ => vs
def opD (D : Ctx) (o : Oper) (st : ASt) (K : Eff → Option R) : Option R :=
 core D o.op (evs st.f (ako o.op)) (mask (bap o.op (evs st.f (ako o.op))) st.h) st.n K
def bak (D : Ctx) (ops : Array Oper) : List Oper → Nat → List Info → ASt → (List Info → ASt → Option R) → Option R
 | [], _, acc, st, K => K acc st
 | o :: rest, i, acc, st, K =>
  match bor acc i o.after.toList with
  | none => none
  | some cl =>
   bi4 ops o st
    (fun st => opD D o st fun e => bii acc i (bqg ops o (bap o.op (evs st.f (ako o.op))) e.puts cl) fun acc => bak D ops rest (i + 1) acc (st.app e o.dst) K)
    (fun st => bii acc i (bcg ops o cl) fun acc => bak D ops rest (i + 1) acc (st.put o.dst (.v undef)) K)
def bee {α : Type} : List α → Option (List α × α)
 | [] => none
 | a :: r => match bee r with
  | some (x, y) => some (a :: x, y)
  | none => some ([], a)
def allIn : Nat → List Nat → Bool
 | 0, _ => true
 | n + 1, l => aun n l && allIn n l
def bs7 (D : Ctx) (ops : Array Oper) (st : ASt) (K : ASt → Option R) : Option R :=
 match bee ops.toList with
 | some (l0, o) => bif (bp8 D [] o.op).isSome && o.guard.isNone then
     bak D ops l0 0 [] st fun acc st => match bor acc l0.length o.after.toList with
      | some cl => bif allIn l0.length cl then doA D o st K else none
      | none => none
  else bak D ops ops.toList 0 [] st fun _ => K
 | none => bak D ops ops.toList 0 [] st fun _ => K
def jd : Code → Nat
 | .region id _ _ => id
 | .seq a _ => jd a
 | .block _ b => jd b
 | .loop b => jd b
 | .scope b => jd b
 | _ => 0
def hintOf : List (Nat × Hint) → Nat → Hint
 | [], _ => ⟨[], [], [], [], none, [], [], []⟩
 | (k, h) :: r, t => bif Nat.beq k t then h else hintOf r t
def bub (n : Nat) : Bk → Bool
 | .row _ _ => true
 | .box _ l => aop n l
def bkm (f : List (Nat × AVal)) (n : Nat) : List Nat → Option (List (Nat × AVal))
 | [] => some []
 | t :: r => bif bnd n (look f t) then
     match bkm f n r with
     | some l => some ((t, look f t) :: l)
     | none => none
  else none
def keepR (g : Nat → AVal) (h : Hp) : Nat → List (Nat × TypeId × Cont) → Option (List (Nat × AVal) × Hp × List Nat)
 | _, [] => some ([], [], [])
 | n, (t, e, c0) :: r => match keepR g h (n + 1) r with
  | none => none
  | some (fs, hs, us) => match g t with
   | .own id => match dx h id with
    | some ⟨.row e' c, false⟩ => bif Nat.beq e e' && !aun id us then some ((t, .own n) :: fs, (n, some ⟨.row e c, false⟩) :: hs, id :: us) else none
    | _ => none
   | .win id 0 len => match dx h id with
    | some ⟨.row e' c, false⟩ => bif Nat.beq e e' && !aun id us then some ((t, .own n) :: fs, (n, some ⟨.row e (c.take len), false⟩) :: hs, id :: us) else none
    | _ => none
   | .v (.slice none 0 0) => bif Nat.beq c0.len 0 then some ((t, .own n) :: fs, (n, some ⟨.row e c0, false⟩) :: hs, us) else none
   | _ => none
def bfe (h : Hp) (n : Nat) (us : List Nat) : List Nat → Option Hp
 | [] => some []
 | id :: r => match bfe h n us r with
  | none => none
  | some l => bif aun id us then some ((id, none) :: l) else
   match dx h id with
   | none => some ((id, none) :: l)
   | some b => bif bub n b.b && Nat.blt id n then some ((id, some b) :: l) else none
def br6 : Hp → List Nat → List Nat
 | [], acc => acc
 | (id, _) :: r, acc => bif aun id acc then br6 r acc else br6 r (id :: acc)
def azt (hl : Nat → Option Blk) (f : List (Nat × AVal)) : List (Nat × Sh) → List (Nat × AVal)
 | [] => []
 | (t, s) :: r => (t, akp s (uo hl (look f t))) :: azt hl f r
def aym (f : List (Nat × AVal)) : List (Nat × Sh) → List Nat
 | [] => []
 | (t, _) :: r => mq (pq (look f t)) (aym f r)
def aon (l : List (Nat × Sh)) (st : ASt) : ASt :=
 match l with
 | [] => st
 | l => { st with f := mq (azt (dx st.h) st.f l) st.f, h := mq (freeze (dx st.h) (aym st.f l) []) st.h }
def bjq : AVal → Bool
 | .own _ | .win _ _ _ => true
 | _ => false
def blf (hl : Nat → Option Blk) (a : AVal) : AVal := bif bjq a then uo hl a else a
def bai (hl : Nat → Option Blk) : List AVal → List AVal
 | [] => []
 | a :: r => blf hl a :: bai hl r
def as1 : List AVal → List Nat
 | [] => []
 | a :: r => bif bjq a then mq (pq a) (as1 r) else as1 r
def apv (h : Hp) : List Nat → List Nat
 | [] => []
 | id :: r => match dx h id with
  | some ⟨.box _ l, _⟩ => mq (as1 l) (apv h r)
  | _ => apv h r
def amb (hl : Nat → Option Blk) (h : Hp) : List Nat → Hp
 | [] => []
 | id :: r => match dx h id with
  | some ⟨.box e l, f⟩ => (id, some ⟨.box e (bai hl l), f⟩) :: amb hl h r
  | _ => amb hl h r
def aad (ids : List Nat) (st : ASt) : ASt :=
 match ids with
 | [] => st
 | ids => { st with h := mq (amb (dx st.h) (mq (freeze (dx st.h) (apv st.h ids) []) st.h) ids) (mq (freeze (dx st.h) (apv st.h ids) []) st.h) }
def bfi : List AVal → List Nat
 | [] => []
 | .ptr j 0 :: r => j :: bfi r
 | _ :: r => bfi r
def btm (f : List (Nat × AVal)) : List Oper → List (Nat × AVal)
 | [] => f
 | o :: r => match o.dst, o.op with
  | some d, .move x => btm ((d, ev f x) :: f) r
  | _, _ => btm f r
def aqf (D : Ctx) (f : List (Nat × AVal)) : List Oper → List Nat
 | [] => []
 | o :: r => match o.op with
  | .makeFunc _ first captured => lun (mq (bfi (evs f first.toList)) (bfi (evs f captured.toList))) (aqf D f r)
  | .call _ => match byg f o.op with
   | some (g, as) => match avu D.inl g with
    | some _ => aqf D f r
    | none => lun (bfi as) (aqf D f r)
   | none => aqf D f r
  | _ => aqf D f r
def bzw (id : Nat) (l : List AVal) : AVal → AVal
 | .ptr j 0 => bif Nat.beq id j then .sta l else .ptr j 0
 | a => a
def btr (id : Nat) (l : List AVal) : List (Nat × AVal) → List (Nat × AVal)
 | [] => []
 | (t, a) :: r => (t, bzw id l a) :: btr id l r
def atb (id : Nat) (st : ASt) : ASt :=
 match dx st.h id with
 | some ⟨.box _ l, _⟩ => bif aop 0 l then { st with f := btr id l st.f, h := mq (freeze (dx st.h) [id] []) st.h } else st
 | _ => st
def axd : List Nat → ASt → ASt
 | [], st => st
 | id :: r, st => axd r (atb id st)
def bso (D : Ctx) (ops : List Oper) (st : ASt) : ASt := bif D.sta then axd (aqf D (btm st.f ops) ops) (aad (aqf D (btm st.f ops) ops) st) else st
def coB (h : Hp) : List (Nat × List Sh) → Hp
 | [] => []
 | (id, s) :: r => match dx h id with
  | some ⟨.box e l, f⟩ => (id, some ⟨.box e (kg s l), f⟩) :: coB h r
  | _ => coB h r
def bps (l : List (Nat × List Sh)) (st : ASt) : ASt :=
 match l with
 | [] => st
 | l => { st with h := mq (coB st.h l) st.h }
def bnb (id : Nat) (d : List AVal) (st : ASt) : ASt :=
 match dx st.h id with
 | some ⟨.box e [.v (.pointer none)], f⟩ => { st with h := (id, some ⟨.box e [.osta 0 d], f⟩) :: st.h }
 | some ⟨.box _ [.ptr j 0], _⟩ => match dx (aad [j] st).h id, dx (aad [j] st).h j with
  | some ⟨.box e [.ptr j' 0], f⟩, some ⟨.box _ l, _⟩ => bif Nat.beq j' j && aop 0 l && !Nat.beq id j then
      { aad [j] st with h := (id, some ⟨.box e [.osta 1 l], f⟩) :: mq (freeze (dx (aad [j] st).h) [j] []) (aad [j] st).h } else aad [j] st
  | _, _ => aad [j] st
 | _ => st
def bmo : List (Nat × List AVal) → ASt → ASt
 | [], st => st
 | (id, d) :: r, st => bmo r (bnb id d st)
def asv (h : Hint) (st : ASt) : ASt := bmo h.osb (bps h.shc (aad h.shb (aon h.sls st)))
def br9 (h : Hint) (st : ASt) : List Nat :=
 match h.gc with
 | none => br6 st.h []
 | some (_, l) => l
def bpr (h : Hint) (n : Nat) : Nat :=
 match h.gc with
 | none => n
 | some (m, _) => bif Nat.ble n m then m else n
def bn1 (h : Hp) (b : Nat) : AVal := match dx h b with
 | some ⟨.box _ [.own j], _⟩ => .own j
 | some ⟨.box _ [.v (.slice none 0 0)], _⟩ => .v (.slice none 0 0)
 | _ => .bot
def bl1 (st : ASt) (t : Nat) : AVal := bif Nat.blt t 1000000 then look st.f t else bn1 st.h (t - 1000000)
def bq6 : List (Nat × TypeId × Cont) → List Nat
 | [] => []
 | (t, _, _) :: r => bif Nat.blt t 1000000 then bq6 r else (t - 1000000) :: bq6 r
def clr (h : Hp) : List Nat → Hp
 | [] => []
 | b :: r => match dx h b with
  | some ⟨.box e [.own _], f⟩ => (b, some ⟨.box e [.bot], f⟩) :: clr h r
  | some ⟨.box e [.v (.slice none 0 0)], f⟩ => (b, some ⟨.box e [.bot], f⟩) :: clr h r
  | _ => clr h r
def bv6 (h : Hp) (l : List Nat) : Hp := match l with
 | [] => h
 | l => mq (clr h l) h
def slotsOf : List (Nat × AVal) → List (Nat × AVal)
 | [] => []
 | (t, x) :: r => bif Nat.blt t 1000000 then (t, x) :: slotsOf r else slotsOf r
def bxw (fs : List (Nat × AVal)) (id : Nat) (b : Option Blk) : Option Blk := match b with
 | some ⟨.box e [.bot], f⟩ => match assoc fs (id + 1000000) with
  | some x => some ⟨.box e [x], f⟩
  | none => b
 | _ => b
def bkg (fs : List (Nat × AVal)) : Hp → Hp
 | [] => []
 | (id, b) :: r => (id, bxw fs id b) :: bkg fs r
def bqv (fs : List (Nat × AVal)) (l : List Nat) (h : Hp) : Hp := match l with
 | [] => h
 | _ => bkg fs h
def norm (h : Hint) (n : Nat) (ids : List Nat) (st : ASt) : Option ASt :=
 match keepR (bl1 st) (bv6 st.h (bq6 h.rows)) n h.rows with
 | none => none
 | some (fs, hs, us) => match bkm st.f n h.keep, bfe (bv6 st.h (bq6 h.rows)) n us ids with
  | some f, some hh => some { f := mq (slotsOf fs) f, h := bqv fs (bq6 h.rows) (mq hs hh), n := n + h.rows.length, m := st.m }
  | _, _ => none
def aza : List (Nat × qb) → Nat → Option qb
 | [], _ => none
 | (k, s) :: r, t => bif Nat.beq k t then some s else aza r t
def boc (f : List (Nat × AVal)) : List Nat → List (Nat × AVal)
 | [] => []
 | t :: r => (t, look f t) :: boc f r
def bq4 (h : Hint) (n : Nat) (ids : List Nat) (K : AExit → ASt → Option R) (next : ASt → Option R) (ex : AExit) (st : ASt) : Option R :=
 match ex with
 | .normal => match norm h n ids (asv h st) with
  | some st => next st
  | none => none
 | .exit id => match norm h n ids (asv h st) with
  | some st => K (.exit id) st
  | none => none
 | .ret => K .ret { st with f := boc st.f h.boxes }
def iter (h : Hint) (n : Nat) (ids : List Nat) (F : ASt → (AExit → ASt → Option R) → Option R) (K : AExit → ASt → Option R) : Nat → ASt → Option R
 | 0, st => F st (bq4 h n ids K fun _ => none)
 | k + 1, st => F st (bq4 h n ids K (iter h n ids F K k))
def keysOf : Hp → List Nat
 | [] => []
 | (id, _) :: r => id :: keysOf r
def avt {α : Type} : Nat → List α → List α
 | 0, l => l
 | _ + 1, [] => []
 | n + 1, _ :: r => avt n r
def ayn : List (Nat × RngE) → Nat → Option RngE
 | [], _ => none
 | (k, s) :: r, t => bif Nat.beq k t then some s else ayn r t
def looks (f : List (Nat × AVal)) : List Nat → List AVal
 | [] => []
 | t :: r => look f t :: looks f r
def be7 (id : Nat) : Hp → Bool
 | [] => true
 | (_, some ⟨.box _ l, _⟩) :: r => !l9 id l && be7 id r
 | _ :: r => be7 id r
def noY : Option YCtx → Bool
 | none => true
 | some _ => false
def bsd (D : Ctx) (st : ASt) (g : Operand) (body : Code) : Option (RngE × List AVal × List AVal) :=
 match ev st.f g with
 | .fn (.func gid) first caps => match ayn D.rng (jd body) with
  | some e => bif D.top && noY D.y && Nat.beq gid e.g && Nat.beq st.m e.m then some (e, first, caps) else none
  | none => none
 | _ => none
def adq (D : Ctx) : Code → ASt → (AExit → ASt → Option R) → Option R
 | .skip, st, K => K .normal st
 | .label _, st, K => K .normal st
 | .region _ ops false, st, K => btc D ops ops.toList (bso D ops.toList st) fun st => K .normal st
 | .region _ ops true, st, K => bs7 D ops (bso D ops.toList st) fun st => K .normal st
 | .seq a b, st, K => adq D a st fun ex st' => match ex with
  | .normal => adq D b st' K
  | .exit id => K (.exit id) st'
  | .ret => K .ret st'
 | .cond c x y, st, K => match ev st.f c with
  | .v (.bool b) => br b (adq D x st K) (adq D y st K)
  | _ => none
 | .block id c, st, K => adq D c st fun ex st' => match ex with
  | .normal => K .normal st'
  | .exit j => bif Nat.beq j id then K .normal st' else K (.exit j) st'
  | .ret => K .ret st'
 | .loop c, st, K => match norm (hintOf D.hints (jd c)) (bpr (hintOf D.hints (jd c)) st.n) (br9 (hintOf D.hints (jd c)) (asv (hintOf D.hints (jd c)) st)) (asv (hintOf D.hints (jd c)) st) with
  | none => none
  | some st => match aza D.loops (jd c) with
   | some s => s st K
   | none => none
 | .exit id, st, K => K (.exit id) st
 | .ret, st, K => K .ret st
 | .rangeFunc g _ _ body, st, K => match bsd D st g body with
  | some (e, first, caps) => e.s (mq first (.yld st.n e.ts (looks st.f e.ts) :: caps)) st.h (st.n + 1) fun _ h n => bif be7 st.n h then K .normal { f := st.f, h := h, n := n, m := st.m } else none
  | none => none
 | _, _, _ => none
def bg : Code → List Code
 | .seq a b => bg a ++ bg b
 | .cond _ a b => bg a ++ bg b
 | .block _ c => bg c
 | .loop c => c :: bg c
 | _ => []
def ql : Code → List Code
 | .seq a b => ql a ++ ql b
 | .cond _ a b => ql a ++ ql b
 | .block _ c => ql c
 | .loop c => ql c
 | .rangeFunc g ps a b => [.rangeFunc g ps a b]
 | _ => []
def bkk : List Nat → List AVal → List (Nat × AVal)
 | t :: ts, a :: r => (t, a) :: bkk ts r
 | _, _ => []
def bk8 (m : Nat) : List Nat → Bool
 | [] => true
 | t :: r => Nat.blt t m && bk8 m r
def itA (D : Ctx) (c : Code) (K : AExit → ASt → Option R) (k : Nat) (st : ASt) : Option R :=
 iter (hintOf D.hints (jd c)) (st.n - (hintOf D.hints (jd c)).rows.length) (keysOf (avt (hintOf D.hints (jd c)).rows.length st.h)) (adq D c) K k st
def jq (D : Ctx) (c : Code) : Prop := ∀ s, aza D.loops (jd c) = some s → ∀ st K r, s st K = some r → ∃ k, itA D c K k st = some r
mutual
def ap3 : AVal → List Nat
 | .win j _ _ | .awin j _ _ _ _ => [j]
 | .agg l | .tuple l => aez l
 | .fn _ a b => mq (l8 a) (l8 b)
 | .alt _ _ a b _ c d => mq (mq (l8 a) (l8 b)) (mq (l8 c) (l8 d))
 | .iface _ x => pq x
 | _ => []
def aez : List AVal → List Nat
 | [] => []
 | a :: r => mq (ap3 a) (aez r)
end
mutual
def au3 (hl : Nat → Option Blk) : AVal → AVal
 | .own id => match hl id with
  | some ⟨.row e c, false⟩ => .fr e c
  | some ⟨.row _ c, true⟩ => .sl c
  | _ => .bot
 | .agg l => .agg (aqb hl l)
 | .tuple l => .tuple (aqb hl l)
 | a => uo hl a
def aqb (hl : Nat → Option Blk) : List AVal → List AVal
 | [] => []
 | a :: r => au3 hl a :: aqb hl r
end
mutual
def aqu : AVal → List Nat
 | .own j => [j]
 | .agg l | .tuple l => aif l
 | _ => []
def aif : List AVal → List Nat
 | [] => []
 | a :: r => mq (aqu a) (aif r)
end
def ag5 : List Nat → Bool
 | [] => true
 | a :: r => !aun a r && ag5 r
mutual
def bc5 : Sh → AVal → AVal
 | .sl c, a => ber c (.sl c) a
 | .fr e c, a => ber c (.fr e c) a
 | .agg ss, .agg l => .agg (bfo ss l)
 | .agg ss, .fn f a c => .fn f a (kg ss c)
 | .alt f fa fc g ga gc, a => axt f fa fc g ga gc a
 | _, a => a
def bfo : List Sh → List AVal → List AVal
 | s :: ss, a :: r => bc5 s a :: bfo ss r
 | _, l => l
end
mutual
def bs8 : Sh → AVal → List Nat
 | .sl _, .own j => [j]
 | .agg ss, .agg l => af7 ss l
 | _, _ => []
def af7 : List Sh → List AVal → List Nat
 | s :: ss, a :: r => mq (bs8 s a) (af7 ss r)
 | _, _ => []
end
def cellV (D : Ctx) (st : ASt) (t : Nat) (ty : TypeId) : Option AVal :=
 match ad2 D.P ty, j5 D.P ty with
 | some g, some sz => match placeOf D (dx st.h) (look st.f t) sz with
  | some mid => bif g then some (aud mid) else match mid with
   | [.arr ..] => none
   | [a] => some a
   | _ => none
  | none => none
 | _, _ => none
def bn4 (D : Ctx) (st : ASt) : List ResultVar → Option (List AVal)
 | [] => some []
 | .tmp t :: r => match bn4 D st r with
  | some l => some (look st.f t :: l)
  | none => none
 | .cell t ty :: r => match cellV D st t ty, bn4 D st r with
  | some a, some l => some (a :: l)
  | _, _ => none
def oneOf : List AVal → AVal
 | [a] => a
 | l => .tuple l
def bq1 (D : Ctx) (sig : List Sh) (fn : Func) (st : ASt) (K : AVal → Option R) : Option R :=
 match bn4 D st fn.results.toList with
 | none => none
 | some l =>
  bif ag5 (aif l) then K (oneOf (bfo sig (aqb (dx (mq (freeze (dx st.h) (mq (aez l) (af7 sig l)) []) st.h)) l))) else none
def aly (D : Ctx) (Y : YCtx) : br5 := fun ts vs args h n K =>
 bif Nat.beq args.length Y.ps.size && ag5 Y.ps.toList && bk8 Y.m Y.ps.toList then
  adq D Y.assign ⟨mq (bkk Y.ps.toList args) (bkk ts vs), h, n, Y.m⟩ fun ex st => match ex with
   | .normal => adq D Y.body st fun ex st => match ex with
    | .normal => K st.h st.n
    | _ => none
   | _ => none
 else none
def anl : Nat → List AVal → List (Nat × AVal)
 | _, [] => []
 | i, a :: r => (i, a) :: anl (i + 1) r
def boi (D : Ctx) (fn : Func) (sig : List Sh) (args : List AVal) (K : AVal → Option R) : Option R :=
 match fn.body with
 | none => none
 | some c => bif Nat.ble args.length fn.ntmps then
     adq D c ⟨anl 0 args, [], 0, fn.ntmps⟩ fun ex st => match ex with
      | .exit _ => none
      | .normal => bq1 D sig fn st K
      | .ret => bq1 D sig fn st K
  else none
def ahe (D : Ctx) (fn : Func) : ayi := fun args h n K =>
 match fn.body with
 | none => none
 | some c => bif Nat.ble args.length fn.ntmps then
     adq D c ⟨anl 0 args, h, n, fn.ntmps⟩ fun ex st => match ex with
      | .exit _ => none
      | .normal => outIn D fn st K
      | .ret => outIn D fn st K
  else none
 where outIn (D : Ctx) (fn : Func) (st : ASt) (K : AVal → Hp → Nat → Option R) : Option R :=
 match bn4 D st fn.results.toList with
 | none => none
 | some l => K (oneOf l) st.h st.n
end Go.Abs
