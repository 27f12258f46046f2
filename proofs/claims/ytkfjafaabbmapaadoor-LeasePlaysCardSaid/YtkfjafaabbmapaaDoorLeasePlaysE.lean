/-
  LeasePlays, part 5: an interpreter of my own over abstract values, the pure functions, the walks and the plain law.
-/

import Derived.Test.YtkfjafaabbmapaaDoorLeasePlaysD

namespace Go.Abs
open Go Go.RowKit
set_option linter.unusedVariables false
set_option linter.unusedSimpArgs false
def ao3 (ops : Array Oper) (j : Nat) : Option Nat := (ops[j]?).bind (·.dst)
def ayl (ops : Array Oper) (o : Oper) (st : ASt) (F : ASt → Option R) (S : ASt → Option R) : Option R :=
 match o.guard with
 | none => F st
 | some (j, want) => match ao3 ops j with
  | none => none
  | some t => match look st.f t with
   | .v (.bool b) => br b (bif want then F (st.put (some t) (.v (.bool true))) else S (st.put (some t) (.v (.bool true)))) (bif want then S (st.put (some t) (.v (.bool false))) else F (st.put (some t) (.v (.bool false))))
   | .v (.tuple _) => S st
   | _ => none
def ar3 : List (Nat × aqw) → Nat → Option aqw
 | [], _ => none
 | (k, s) :: r, t => bif Nat.beq k t then some s else ar3 r t
def bni (f : List (Nat × AVal)) : Op → Option (Nat × List AVal)
 | .call { callee := .value x, args, .. } => match ev f x with
  | .fn (.func g) first caps => some (g, ku first (ku (evs f args.toList) caps))
  | _ => none
 | _ => none
def bd9 (D : Ctx) (f : List (Nat × AVal)) (op : Op) : Option (aqw × List AVal) :=
 match bni f op with
 | some (g, as) => match ar3 D.inl g with
  | some s => some (s, as)
  | none => none
 | none => none
def bhi (f : List (Nat × AVal)) : Op → Option (List Nat × List AVal × List AVal)
 | .call { callee := .value x, args, .. } => match ev f x with
  | .yld _ ts vs => some (ts, vs, evs f args.toList)
  | _ => none
 | _ => none
def doA (D : Ctx) (o : Oper) (st : ASt) (K : ASt → Option R) : Option R :=
 match bhi st.f o.op with
 | some (ts, vs, as) => match D.ys with
  | some s => s ts vs as st.h st.n fun h n => K { f := bh0 st.m o.dst (.v (.bool true)) st.f, h := h, n := n, m := st.m }
  | none => none
 | none => match bd9 D st.f o.op with
 | some (s, as) => s as st.h st.n fun v h n => K { f := bh0 st.m o.dst v st.f, h := h, n := n, m := st.m }
 | none => opA D o st fun e => K (st.app e o.dst)
def bik (D : Ctx) (ops : Array Oper) : List Oper → ASt → (ASt → Option R) → Option R
 | [], st, K => K st
 | o :: rest, st, K => ayl ops o st (fun st => doA D o st fun st => bik D ops rest st K) (fun st => bik D ops rest (st.put o.dst (.v undef)) K)
structure Info where
 looks : List Nat
 dst : Option Nat
 vs : List AVal
 puts : Hp
 cl : List Nat
def tmpsOf : List Operand → List Nat
 | [] => []
 | .tmp t :: r => t :: tmpsOf r
 | _ :: r => tmpsOf r
def nth {α : Type} : List α → Nat → Option α
 | [], _ => none
 | a :: _, 0 => some a
 | _ :: r, n + 1 => nth r n
def lun : List Nat → List Nat → List Nat
 | [], l => l
 | a :: r, l => bif anr a l then lun r l else a :: lun r l
def bfe (acc : List Info) (i : Nat) : List Edge → Option (List Nat)
 | [] => some []
 | e :: r => bif Region.binds .any e then
     bif Nat.blt e.on i then
      match nth acc (i - 1 - e.on), bfe acc i r with
      | some x, some l => some (lun (e.on :: x.cl) l)
      | _, _ => none
     else none
  else bfe acc i r
def as3 (d : Option Nat) (l : List Nat) : Bool :=
 match d with
 | none => false
 | some d => anr d l
def apm (d d' : Option Nat) : Bool :=
 match d, d' with
 | some d, some d' => Nat.beq d d'
 | _, _ => false
def ajm : Hp → List AVal → Hp → Bool
 | [], _, _ => false
 | (id, _) :: r, vs, h => kg id vs || (assoc h id).isSome || ajm r vs h
def apn (x y : Info) : Bool :=
 !(as3 x.dst y.looks || as3 y.dst x.looks || apm x.dst y.dst || ajm x.puts y.vs y.puts || ajm y.puts x.vs x.puts)
def avh : List Info → Nat → Info → Bool
 | [], _, _ => true
 | x :: r, n, y => (anr (n - 1) y.cl || apn x y) && avh r (n - 1) y
def ay5 (ops : Array Oper) (o : Oper) : List Nat :=
 match o.guard with
 | some (j, _) => (ao3 ops j).toList
 | none => []
def bgc (ops : Array Oper) (o : Oper) (vs : List AVal) (puts : Hp) (cl : List Nat) : Info := ⟨ku (ay5 ops o) (tmpsOf (ahb o.op)), o.dst, vs, puts, cl⟩
def atb (ops : Array Oper) (o : Oper) (cl : List Nat) : Info := ⟨ay5 ops o, o.dst, [], [], cl⟩
def azp (acc : List Info) (i : Nat) (I : Info) (F : List Info → Option R) : Option R := bif avh acc i I then F (I :: acc) else none
def atz (op : Op) (vs : List AVal) : List AVal :=
 match op with
 | .move _ | .assign _ | .pick _ _ _ | .nilCheck _ | .makeFunc _ _ _ | .makeInterface _ _ | .fieldAddr _ _ _ | .box _ _ => []
 | _ => vs
def opD (D : Ctx) (o : Oper) (st : ASt) (K : Eff → Option R) : Option R :=
 core D o.op (evs st.f (ahb o.op)) (mask (atz o.op (evs st.f (ahb o.op))) st.h) st.n K
def at0 (D : Ctx) (ops : Array Oper) : List Oper → Nat → List Info → ASt → (List Info → ASt → Option R) → Option R
 | [], _, acc, st, K => K acc st
 | o :: rest, i, acc, st, K =>
  match bfe acc i o.after.toList with
  | none => none
  | some cl =>
   ayl ops o st
    (fun st => opD D o st fun e => azp acc i (bgc ops o (atz o.op (evs st.f (ahb o.op))) e.puts cl) fun acc => at0 D ops rest (i + 1) acc (st.app e o.dst) K)
    (fun st => azp acc i (atb ops o cl) fun acc => at0 D ops rest (i + 1) acc (st.put o.dst (.v undef)) K)
def au8 {α : Type} : List α → Option (List α × α)
 | [] => none
 | a :: r => match au8 r with
  | some (x, y) => some (a :: x, y)
  | none => some ([], a)
def allIn : Nat → List Nat → Bool
 | 0, _ => true
 | n + 1, l => anr n l && allIn n l
def bgp (D : Ctx) (ops : Array Oper) (st : ASt) (K : ASt → Option R) : Option R :=
 match au8 ops.toList with
 | some (l0, o) => bif (bd9 D [] o.op).isSome && o.guard.isNone then
     at0 D ops l0 0 [] st fun acc st => match bfe acc l0.length o.after.toList with
      | some cl => bif allIn l0.length cl then doA D o st K else none
      | none => none
  else at0 D ops ops.toList 0 [] st fun _ => K
 | none => at0 D ops ops.toList 0 [] st fun _ => K
def je : Code → Nat
 | .region id _ _ => id
 | .seq a _ => je a
 | .block _ b => je b
 | .loop b => je b
 | .scope b => je b
 | _ => 0
def hintOf : List (Nat × Hint) → Nat → Hint
 | [], _ => ⟨[], [], [], [], none, [], [], []⟩
 | (k, h) :: r, t => bif Nat.beq k t then h else hintOf r t
def bk8 (n : Nat) : Bk → Bool
 | .row _ _ => true
 | .box _ l => akd n l
def bb8 (f : List (Nat × AVal)) (n : Nat) : List Nat → Option (List (Nat × AVal))
 | [] => some []
 | t :: r => bif bnd n (look f t) then
     match bb8 f n r with
     | some l => some ((t, look f t) :: l)
     | none => none
  else none
def keepR (g : Nat → AVal) (h : Hp) : Nat → List (Nat × TypeId × Cont) → Option (List (Nat × AVal) × Hp × List Nat)
 | _, [] => some ([], [], [])
 | n, (t, e, c0) :: r => match keepR g h (n + 1) r with
  | none => none
  | some (fs, hs, us) => match g t with
   | .own id => match d9 h id with
    | some ⟨.row e' c, false⟩ => bif Nat.beq e e' && !anr id us then some ((t, .own n) :: fs, (n, some ⟨.row e c, false⟩) :: hs, id :: us) else none
    | _ => none
   | .win id 0 len => match d9 h id with
    | some ⟨.row e' c, false⟩ => bif Nat.beq e e' && !anr id us then some ((t, .own n) :: fs, (n, some ⟨.row e (c.take len), false⟩) :: hs, id :: us) else none
    | _ => none
   | .v (.slice none 0 0) => bif Nat.beq c0.len 0 then some ((t, .own n) :: fs, (n, some ⟨.row e c0, false⟩) :: hs, us) else none
   | _ => none
def auq (h : Hp) (n : Nat) (us : List Nat) : List Nat → Option Hp
 | [] => some []
 | id :: r => match auq h n us r with
  | none => none
  | some l => bif anr id us then some ((id, none) :: l) else
   match d9 h id with
   | none => some ((id, none) :: l)
   | some b => bif bk8 n b.b && Nat.blt id n then some ((id, some b) :: l) else none
def bg5 : Hp → List Nat → List Nat
 | [], acc => acc
 | (id, _) :: r, acc => bif anr id acc then bg5 r acc else bg5 r (id :: acc)
def asq (hl : Nat → Option Blk) (f : List (Nat × AVal)) : List (Nat × Sh) → List (Nat × AVal)
 | [] => []
 | (t, s) :: r => (t, ahc s (qx hl (look f t))) :: asq hl f r
def ar0 (f : List (Nat × AVal)) : List (Nat × Sh) → List Nat
 | [] => []
 | (t, _) :: r => ku (nu (look f t)) (ar0 f r)
def ajk (l : List (Nat × Sh)) (st : ASt) : ASt :=
 match l with
 | [] => st
 | l => { st with f := ku (asq (d9 st.h) st.f l) st.f, h := ku (freeze (d9 st.h) (ar0 st.f l) []) st.h }
def bah : AVal → Bool
 | .own _ | .win _ _ _ => true
 | _ => false
def bcb (hl : Nat → Option Blk) (a : AVal) : AVal := bif bah a then qx hl a else a
def aq4 (hl : Nat → Option Blk) : List AVal → List AVal
 | [] => []
 | a :: r => bcb hl a :: aq4 hl r
def amu : List AVal → List Nat
 | [] => []
 | a :: r => bif bah a then ku (nu a) (amu r) else amu r
def alb (h : Hp) : List Nat → List Nat
 | [] => []
 | id :: r => match d9 h id with
  | some ⟨.box _ l, _⟩ => ku (amu l) (alb h r)
  | _ => alb h r
def aic (hl : Nat → Option Blk) (h : Hp) : List Nat → Hp
 | [] => []
 | id :: r => match d9 h id with
  | some ⟨.box e l, f⟩ => (id, some ⟨.box e (aq4 hl l), f⟩) :: aic hl h r
  | _ => aic hl h r
def yw (ids : List Nat) (st : ASt) : ASt :=
 match ids with
 | [] => st
 | ids => { st with h := ku (aic (d9 st.h) (ku (freeze (d9 st.h) (alb st.h ids) []) st.h) ids) (ku (freeze (d9 st.h) (alb st.h ids) []) st.h) }
def ay4 : List AVal → List Nat
 | [] => []
 | .ptr j 0 :: r => j :: ay4 r
 | _ :: r => ay4 r
def arb (f : List (Nat × AVal)) : List Oper → List Nat
 | [] => []
 | o :: r => match o.op with
  | .makeFunc _ first captured => lun (ku (ay4 (evs f first.toList)) (ay4 (evs f captured.toList))) (arb f r)
  | _ => arb f r
def bnh (id : Nat) (l : List AVal) : AVal → AVal
 | .ptr j 0 => bif Nat.beq id j then .sta l else .ptr j 0
 | a => a
def blg (id : Nat) (l : List AVal) : List (Nat × AVal) → List (Nat × AVal)
 | [] => []
 | (t, a) :: r => (t, bnh id l a) :: blg id l r
def am4 (id : Nat) (st : ASt) : ASt :=
 match d9 st.h id with
 | some ⟨.box _ l, _⟩ => bif akd 0 l then { st with f := blg id l st.f, h := ku (freeze (d9 st.h) [id] []) st.h } else st
 | _ => st
def aov : List Nat → ASt → ASt
 | [], st => st
 | id :: r, st => aov r (am4 id st)
def bhm (D : Ctx) (ops : List Oper) (st : ASt) : ASt := bif D.sta then aov (arb st.f ops) (yw (arb st.f ops) st) else st
def coB (h : Hp) : List (Nat × List Sh) → Hp
 | [] => []
 | (id, s) :: r => match d9 h id with
  | some ⟨.box e l, f⟩ => (id, some ⟨.box e (nk s l), f⟩) :: coB h r
  | _ => coB h r
def beo (l : List (Nat × List Sh)) (st : ASt) : ASt :=
 match l with
 | [] => st
 | l => { st with h := ku (coB st.h l) st.h }
def bbd (id : Nat) (d : List AVal) (st : ASt) : ASt :=
 match d9 st.h id with
 | some ⟨.box e [.v (.pointer none)], f⟩ => { st with h := (id, some ⟨.box e [.osta 0 d], f⟩) :: st.h }
 | some ⟨.box _ [.ptr j 0], _⟩ => match d9 (yw [j] st).h id, d9 (yw [j] st).h j with
  | some ⟨.box e [.ptr j' 0], f⟩, some ⟨.box _ l, _⟩ => bif Nat.beq j' j && akd 0 l && !Nat.beq id j then
      { yw [j] st with h := (id, some ⟨.box e [.osta 1 l], f⟩) :: ku (freeze (d9 (yw [j] st).h) [j] []) (yw [j] st).h } else yw [j] st
  | _, _ => yw [j] st
 | _ => st
def bc9 : List (Nat × List AVal) → ASt → ASt
 | [], st => st
 | (id, d) :: r, st => bc9 r (bbd id d st)
def amt (h : Hint) (st : ASt) : ASt := bc9 h.osb (beo h.shc (yw h.shb (ajk h.sls st)))
def bg1 (h : Hint) (st : ASt) : List Nat :=
 match h.gc with
 | none => bg5 st.h []
 | some (_, l) => l
def bed (h : Hint) (n : Nat) : Nat :=
 match h.gc with
 | none => n
 | some (m, _) => bif Nat.ble n m then m else n
def bbg (h : Hp) (b : Nat) : AVal := match d9 h b with
 | some ⟨.box _ [.own j], _⟩ => .own j
 | some ⟨.box _ [.v (.slice none 0 0)], _⟩ => .v (.slice none 0 0)
 | _ => .bot
def bdk (st : ASt) (t : Nat) : AVal := bif Nat.blt t 1000000 then look st.f t else bbg st.h (t - 1000000)
def bh2 : List (Nat × TypeId × Cont) → List Nat
 | [] => []
 | (t, _, _) :: r => bif Nat.blt t 1000000 then bh2 r else (t - 1000000) :: bh2 r
def clr (h : Hp) : List Nat → Hp
 | [] => []
 | b :: r => match d9 h b with
  | some ⟨.box e [.own _], f⟩ => (b, some ⟨.box e [.bot], f⟩) :: clr h r
  | some ⟨.box e [.v (.slice none 0 0)], f⟩ => (b, some ⟨.box e [.bot], f⟩) :: clr h r
  | _ => clr h r
def bkv (h : Hp) (l : List Nat) : Hp := match l with
 | [] => h
 | l => ku (clr h l) h
def slotsOf : List (Nat × AVal) → List (Nat × AVal)
 | [] => []
 | (t, x) :: r => bif Nat.blt t 1000000 then (t, x) :: slotsOf r else slotsOf r
def bmg (fs : List (Nat × AVal)) (id : Nat) (b : Option Blk) : Option Blk := match b with
 | some ⟨.box e [.bot], f⟩ => match assoc fs (id + 1000000) with
  | some x => some ⟨.box e [x], f⟩
  | none => b
 | _ => b
def baw (fs : List (Nat × AVal)) : Hp → Hp
 | [] => []
 | (id, b) :: r => (id, bmg fs id b) :: baw fs r
def bf4 (fs : List (Nat × AVal)) (l : List Nat) (h : Hp) : Hp := match l with
 | [] => h
 | _ => baw fs h
def norm (h : Hint) (n : Nat) (ids : List Nat) (st : ASt) : Option ASt :=
 match keepR (bdk st) (bkv st.h (bh2 h.rows)) n h.rows with
 | none => none
 | some (fs, hs, us) => match bb8 st.f n h.keep, auq (bkv st.h (bh2 h.rows)) n us ids with
  | some f, some hh => some { f := ku (slotsOf fs) f, h := bf4 fs (bh2 h.rows) (ku hs hh), n := n + h.rows.length, m := st.m }
  | _, _ => none
def arn : List (Nat × yu) → Nat → Option yu
 | [], _ => none
 | (k, s) :: r, t => bif Nat.beq k t then some s else arn r t
def bd5 (f : List (Nat × AVal)) : List Nat → List (Nat × AVal)
 | [] => []
 | t :: r => (t, look f t) :: bd5 f r
def bhy (h : Hint) (n : Nat) (ids : List Nat) (K : AExit → ASt → Option R) (next : ASt → Option R) (ex : AExit) (st : ASt) : Option R :=
 match ex with
 | .normal => match norm h n ids (amt h st) with
  | some st => next st
  | none => none
 | .exit id => match norm h n ids (amt h st) with
  | some st => K (.exit id) st
  | none => none
 | .ret => K .ret { st with f := bd5 st.f h.boxes }
def iter (h : Hint) (n : Nat) (ids : List Nat) (F : ASt → (AExit → ASt → Option R) → Option R) (K : AExit → ASt → Option R) : Nat → ASt → Option R
 | 0, st => F st (bhy h n ids K fun _ => none)
 | k + 1, st => F st (bhy h n ids K (iter h n ids F K k))
def keysOf : Hp → List Nat
 | [] => []
 | (id, _) :: r => id :: keysOf r
def apt {α : Type} : Nat → List α → List α
 | 0, l => l
 | _ + 1, [] => []
 | n + 1, _ :: r => apt n r
def aq6 : List (Nat × RngE) → Nat → Option RngE
 | [], _ => none
 | (k, s) :: r, t => bif Nat.beq k t then some s else aq6 r t
def looks (f : List (Nat × AVal)) : List Nat → List AVal
 | [] => []
 | t :: r => look f t :: looks f r
def avs (id : Nat) : Hp → Bool
 | [] => true
 | (_, some ⟨.box _ l, _⟩) :: r => !kg id l && avs id r
 | _ :: r => avs id r
def noY : Option YCtx → Bool
 | none => true
 | some _ => false
def bgx (D : Ctx) (st : ASt) (g : Operand) (body : Code) : Option (RngE × List AVal × List AVal) :=
 match ev st.f g with
 | .fn (.func gid) first caps => match aq6 D.rng (je body) with
  | some e => bif D.top && noY D.y && Nat.beq gid e.g && Nat.beq st.m e.m then some (e, first, caps) else none
  | none => none
 | _ => none
def abz (D : Ctx) : Code → ASt → (AExit → ASt → Option R) → Option R
 | .skip, st, K => K .normal st
 | .label _, st, K => K .normal st
 | .region _ ops false, st, K => bik D ops ops.toList (bhm D ops.toList st) fun st => K .normal st
 | .region _ ops true, st, K => bgp D ops (bhm D ops.toList st) fun st => K .normal st
 | .seq a b, st, K => abz D a st fun ex st' => match ex with
  | .normal => abz D b st' K
  | .exit id => K (.exit id) st'
  | .ret => K .ret st'
 | .cond c x y, st, K => match ev st.f c with
  | .v (.bool b) => br b (abz D x st K) (abz D y st K)
  | _ => none
 | .block id c, st, K => abz D c st fun ex st' => match ex with
  | .normal => K .normal st'
  | .exit j => bif Nat.beq j id then K .normal st' else K (.exit j) st'
  | .ret => K .ret st'
 | .loop c, st, K => match norm (hintOf D.hints (je c)) (bed (hintOf D.hints (je c)) st.n) (bg1 (hintOf D.hints (je c)) (amt (hintOf D.hints (je c)) st)) (amt (hintOf D.hints (je c)) st) with
  | none => none
  | some st => match arn D.loops (je c) with
   | some s => s st K
   | none => none
 | .exit id, st, K => K (.exit id) st
 | .ret, st, K => K .ret st
 | .rangeFunc g _ _ body, st, K => match bgx D st g body with
  | some (e, first, caps) => e.s (ku first (.yld st.n e.ts (looks st.f e.ts) :: caps)) st.h (st.n + 1) fun _ h n => bif avs st.n h then K .normal { f := st.f, h := h, n := n, m := st.m } else none
  | none => none
 | _, _, _ => none
def dh : Code → List Code
 | .seq a b => dh a ++ dh b
 | .cond _ a b => dh a ++ dh b
 | .block _ c => dh c
 | .loop c => c :: dh c
 | _ => []
def qg : Code → List Code
 | .seq a b => qg a ++ qg b
 | .cond _ a b => qg a ++ qg b
 | .block _ c => qg c
 | .loop c => qg c
 | .rangeFunc g ps a b => [.rangeFunc g ps a b]
 | _ => []
def bav : List Nat → List AVal → List (Nat × AVal)
 | t :: ts, a :: r => (t, a) :: bav ts r
 | _, _ => []
def bbw (m : Nat) : List Nat → Bool
 | [] => true
 | t :: r => Nat.blt t m && bbw m r
def itA (D : Ctx) (c : Code) (K : AExit → ASt → Option R) (k : Nat) (st : ASt) : Option R :=
 iter (hintOf D.hints (je c)) (st.n - (hintOf D.hints (je c)).rows.length) (keysOf (apt (hintOf D.hints (je c)).rows.length st.h)) (abz D c) K k st
def ng (D : Ctx) (c : Code) : Prop := ∀ s, arn D.loops (je c) = some s → ∀ st K r, s st K = some r → ∃ k, itA D c K k st = some r
mutual
def akh : AVal → List Nat
 | .win j _ _ | .awin j _ _ _ _ => [j]
 | .agg l | .tuple l => ac5 l
 | .fn _ a b => ku (j6 a) (j6 b)
 | .alt _ _ a b _ c d => ku (ku (j6 a) (j6 b)) (ku (j6 c) (j6 d))
 | .iface _ x => nu x
 | _ => []
def ac5 : List AVal → List Nat
 | [] => []
 | a :: r => ku (akh a) (ac5 r)
end
mutual
def anx (hl : Nat → Option Blk) : AVal → AVal
 | .own id => match hl id with
  | some ⟨.row e c, false⟩ => .fr e c
  | some ⟨.row _ c, true⟩ => .sl c
  | _ => .bot
 | .agg l => .agg (ak3 hl l)
 | .tuple l => .tuple (ak3 hl l)
 | a => qx hl a
def ak3 (hl : Nat → Option Blk) : List AVal → List AVal
 | [] => []
 | a :: r => anx hl a :: ak3 hl r
end
mutual
def alg : AVal → List Nat
 | .own j => [j]
 | .agg l | .tuple l => afm l
 | _ => []
def afm : List AVal → List Nat
 | [] => []
 | a :: r => ku (alg a) (afm r)
end
def ae2 : List Nat → Bool
 | [] => true
 | a :: r => !anr a r && ae2 r
mutual
def auf : Sh → AVal → AVal
 | .sl c, a => avg c (.sl c) a
 | .fr e c, a => avg c (.fr e c) a
 | .agg ss, .agg l => .agg (aww ss l)
 | .agg ss, .fn f a c => .fn f a (nk ss c)
 | .alt f fa fc g ga gc, a => aoq f fa fc g ga gc a
 | _, a => a
def aww : List Sh → List AVal → List AVal
 | s :: ss, a :: r => auf s a :: aww ss r
 | _, l => l
end
mutual
def bgo : Sh → AVal → List Nat
 | .sl _, .own j => [j]
 | .agg ss, .agg l => ad6 ss l
 | _, _ => []
def ad6 : List Sh → List AVal → List Nat
 | s :: ss, a :: r => ku (bgo s a) (ad6 ss r)
 | _, _ => []
end
def cellV (D : Ctx) (st : ASt) (t : Nat) (ty : TypeId) : Option AVal :=
 match acf D.P ty, jq D.P ty with
 | some g, some sz => match placeOf D (d9 st.h) (look st.f t) sz with
  | some mid => bif g then some (anw mid) else match mid with
   | [.arr ..] => none
   | [a] => some a
   | _ => none
  | none => none
 | _, _ => none
def bdv (D : Ctx) (st : ASt) : List ResultVar → Option (List AVal)
 | [] => some []
 | .tmp t :: r => match bdv D st r with
  | some l => some (look st.f t :: l)
  | none => none
 | .cell t ty :: r => match cellV D st t ty, bdv D st r with
  | some a, some l => some (a :: l)
  | _, _ => none
def oneOf : List AVal → AVal
 | [a] => a
 | l => .tuple l
def bf0 (D : Ctx) (sig : List Sh) (fn : Func) (st : ASt) (K : AVal → Option R) : Option R :=
 match bdv D st fn.results.toList with
 | none => none
 | some l =>
  bif ae2 (afm l) then K (oneOf (aww sig (ak3 (d9 (ku (freeze (d9 st.h) (ku (ac5 l) (ad6 sig l)) []) st.h)) l))) else none
def avo (D : Ctx) (Y : YCtx) : bgv := fun ts vs args h n K =>
 bif Nat.beq args.length Y.ps.size && ae2 Y.ps.toList && bbw Y.m Y.ps.toList then
  abz D Y.assign ⟨ku (bav Y.ps.toList args) (bav ts vs), h, n, Y.m⟩ fun ex st => match ex with
   | .normal => abz D Y.body st fun ex st => match ex with
    | .normal => K st.h st.n
    | _ => none
   | _ => none
 else none
def aji : Nat → List AVal → List (Nat × AVal)
 | _, [] => []
 | i, a :: r => (i, a) :: aji (i + 1) r
def bg7 (D : Ctx) (fn : Func) (sig : List Sh) (args : List AVal) (K : AVal → Option R) : Option R :=
 match fn.body with
 | none => none
 | some c => bif Nat.ble args.length fn.ntmps then
     abz D c ⟨aji 0 args, [], 0, fn.ntmps⟩ fun ex st => match ex with
      | .exit _ => none
      | .normal => bf0 D sig fn st K
      | .ret => bf0 D sig fn st K
  else none
def aar (D : Ctx) (fn : Func) : aqw := fun args h n K =>
 match fn.body with
 | none => none
 | some c => bif Nat.ble args.length fn.ntmps then
     abz D c ⟨aji 0 args, h, n, fn.ntmps⟩ fun ex st => match ex with
      | .exit _ => none
      | .normal => outIn D fn st K
      | .ret => outIn D fn st K
  else none
 where outIn (D : Ctx) (fn : Func) (st : ASt) (K : AVal → Hp → Nat → Option R) : Option R :=
 match bdv D st fn.results.toList with
 | none => none
 | some l => K (oneOf l) st.h st.n
end Go.Abs
