/-
  HssOnce, part 5: an interpreter of my own over abstract values, the pure functions, the walks and the plain law.
-/

import Derived.Test.YtmipokjdajiimaaDoorHssOnceD

namespace Go.Abs
open Go Go.RowKit
set_option linter.unusedVariables false
set_option linter.unusedSimpArgs false
def anw (ops : Array Oper) (j : Nat) : Option Nat := (ops[j]?).bind (·.dst)
def awo (ops : Array Oper) (o : Oper) (st : ASt) (F : ASt → Option R) (S : ASt → Option R) : Option R :=
 match o.guard with
 | none => F st
 | some (j, want) => match anw ops j with
  | none => none
  | some t => match look st.f t with
   | .v (.bool b) => br b (bif want then F (st.put (some t) (.v (.bool true))) else S (st.put (some t) (.v (.bool true)))) (bif want then S (st.put (some t) (.v (.bool false))) else F (st.put (some t) (.v (.bool false))))
   | .v (.tuple _) => S st
   | _ => none
def am2 : List (Nat × aog) → Nat → Option aog
 | [], _ => none
 | (k, s) :: r, t => bif Nat.beq k t then some s else am2 r t
def bip (f : List (Nat × AVal)) : Op → Option (Nat × List AVal)
 | .call { callee := .value x, args, .. } => match ev f x with
  | .fn (.func g) first caps => some (g, jr first (jr (evs f args.toList) caps))
  | _ => none
 | _ => none
def bbw (D : Ctx) (f : List (Nat × AVal)) (op : Op) : Option (aog × List AVal) :=
 match bip f op with
 | some (g, as) => match am2 D.inl g with
  | some s => some (s, as)
  | none => none
 | none => none
def bd1 (f : List (Nat × AVal)) : Op → Option (List Nat × List AVal × List AVal)
 | .call { callee := .value x, args, .. } => match ev f x with
  | .yld _ ts vs => some (ts, vs, evs f args.toList)
  | _ => none
 | _ => none
def doA (D : Ctx) (o : Oper) (st : ASt) (K : ASt → Option R) : Option R :=
 match bd1 st.f o.op with
 | some (ts, vs, as) => match D.ys with
  | some s => s ts vs as st.h st.n fun h n => K { f := bdw st.m o.dst (.v (.bool true)) st.f, h := h, n := n, m := st.m }
  | none => none
 | none => match bbw D st.f o.op with
 | some (s, as) => s as st.h st.n fun v h n => K { f := bdw st.m o.dst v st.f, h := h, n := n, m := st.m }
 | none => opA D o st fun e => K (st.app e o.dst)
def bf1 (D : Ctx) (ops : Array Oper) : List Oper → ASt → (ASt → Option R) → Option R
 | [], st, K => K st
 | o :: rest, st, K => awo ops o st (fun st => doA D o st fun st => bf1 D ops rest st K) (fun st => bf1 D ops rest (st.put o.dst (.v undef)) K)
structure Info where
 looks : List Nat
 dst : Option Nat
 vs : List AVal
 puts : Hp
 cl : List Nat
def tmpsOf : List Operand → List Nat
 | [] => []
 | .tmp t :: r => t :: tmpsOf r
 | _ :: r => tmpsOf r
def nth {α : Type} : List α → Nat → Option α
 | [], _ => none
 | a :: _, 0 => some a
 | _ :: r, n + 1 => nth r n
def lun : List Nat → List Nat → List Nat
 | [], l => l
 | a :: r, l => bif alm a l then lun r l else a :: lun r l
def bcz (acc : List Info) (i : Nat) : List Edge → Option (List Nat)
 | [] => some []
 | e :: r => bif Region.binds .any e then
     bif Nat.blt e.on i then
      match nth acc (i - 1 - e.on), bcz acc i r with
      | some x, some l => some (lun (e.on :: x.cl) l)
      | _, _ => none
     else none
  else bcz acc i r
def aqp (d : Option Nat) (l : List Nat) : Bool :=
 match d with
 | none => false
 | some d => alm d l
def anm (d d' : Option Nat) : Bool :=
 match d, d' with
 | some d, some d' => Nat.beq d d'
 | _, _ => false
def ahi : Hp → List AVal → Hp → Bool
 | [], _, _ => false
 | (id, _) :: r, vs, h => jm id vs || (assoc h id).isSome || ahi r vs h
def aml (x y : Info) : Bool :=
 !(aqp x.dst y.looks || aqp y.dst x.looks || anm x.dst y.dst || ahi x.puts y.vs y.puts || ahi y.puts x.vs x.puts)
def asq : List Info → Nat → Info → Bool
 | [], _, _ => true
 | x :: r, n, y => (alm (n - 1) y.cl || aml x y) && asq r (n - 1) y
def av5 (ops : Array Oper) (o : Oper) : List Nat :=
 match o.guard with
 | some (j, _) => (anw ops j).toList
 | none => []
def bdi (ops : Array Oper) (o : Oper) (vs : List AVal) (puts : Hp) (cl : List Nat) : Info := ⟨jr (av5 ops o) (tmpsOf (afu o.op)), o.dst, vs, puts, cl⟩
def aq0 (ops : Array Oper) (o : Oper) (cl : List Nat) : Info := ⟨av5 ops o, o.dst, [], [], cl⟩
def av1 (acc : List Info) (i : Nat) (I : Info) (F : List Info → Option R) : Option R := bif asq acc i I then F (I :: acc) else none
def aq4 (op : Op) (vs : List AVal) : List AVal :=
 match op with
 | .move _ | .assign _ | .pick _ _ _ | .nilCheck _ | .makeFunc _ _ _ | .makeInterface _ _ | .fieldAddr _ _ _ | .box _ _ => []
 | _ => vs
def opD (D : Ctx) (o : Oper) (st : ASt) (K : Eff → Option R) : Option R :=
 core D o.op (evs st.f (afu o.op)) (mask (aq4 o.op (evs st.f (afu o.op))) st.h) st.n K
def ard (D : Ctx) (ops : Array Oper) : List Oper → Nat → List Info → ASt → (List Info → ASt → Option R) → Option R
 | [], _, acc, st, K => K acc st
 | o :: rest, i, acc, st, K =>
  match bcz acc i o.after.toList with
  | none => none
  | some cl =>
   awo ops o st
    (fun st => opD D o st fun e => av1 acc i (bdi ops o (aq4 o.op (evs st.f (afu o.op))) e.puts cl) fun acc => ard D ops rest (i + 1) acc (st.app e o.dst) K)
    (fun st => av1 acc i (aq0 ops o cl) fun acc => ard D ops rest (i + 1) acc (st.put o.dst (.v undef)) K)
def aty {α : Type} : List α → Option (List α × α)
 | [] => none
 | a :: r => match aty r with
  | some (x, y) => some (a :: x, y)
  | none => some ([], a)
def allIn : Nat → List Nat → Bool
 | 0, _ => true
 | n + 1, l => alm n l && allIn n l
def beb (D : Ctx) (ops : Array Oper) (st : ASt) (K : ASt → Option R) : Option R :=
 match aty ops.toList with
 | some (l0, o) => bif (bbw D [] o.op).isSome && o.guard.isNone then
     ard D ops l0 0 [] st fun acc st => match bcz acc l0.length o.after.toList with
      | some cl => bif allIn l0.length cl then doA D o st K else none
      | none => none
  else ard D ops ops.toList 0 [] st fun _ => K
 | none => ard D ops ops.toList 0 [] st fun _ => K
def fq : Code → Nat
 | .region id _ _ => id
 | .seq a _ => fq a
 | .block _ b => fq b
 | .loop b => fq b
 | .scope b => fq b
 | _ => 0
def hintOf : List (Nat × Hint) → Nat → Hint
 | [], _ => ⟨[], [], [], [], none, [], [], []⟩
 | (k, h) :: r, t => bif Nat.beq k t then h else hintOf r t
def bhe (n : Nat) : Bk → Bool
 | .row _ _ => true
 | .box _ l => aif n l
def azn (f : List (Nat × AVal)) (n : Nat) : List Nat → Option (List (Nat × AVal))
 | [] => some []
 | t :: r => bif bnd n (look f t) then
     match azn f n r with
     | some l => some ((t, look f t) :: l)
     | none => none
  else none
def keepR (g : Nat → AVal) (h : Hp) : Nat → List (Nat × TypeId × Cont) → Option (List (Nat × AVal) × Hp × List Nat)
 | _, [] => some ([], [], [])
 | n, (t, e, c0) :: r => match keepR g h (n + 1) r with
  | none => none
  | some (fs, hs, us) => match g t with
   | .own id => match bf h id with
    | some ⟨.row e' c, false⟩ => bif Nat.beq e e' && !alm id us then some ((t, .own n) :: fs, (n, some ⟨.row e c, false⟩) :: hs, id :: us) else none
    | _ => none
   | .win id 0 len => match bf h id with
    | some ⟨.row e' c, false⟩ => bif Nat.beq e e' && !alm id us then some ((t, .own n) :: fs, (n, some ⟨.row e (c.take len), false⟩) :: hs, id :: us) else none
    | _ => none
   | .v (.slice none 0 0) => bif Nat.beq c0.len 0 then some ((t, .own n) :: fs, (n, some ⟨.row e c0, false⟩) :: hs, us) else none
   | _ => none
def arq (h : Hp) (n : Nat) (us : List Nat) : List Nat → Option Hp
 | [] => some []
 | id :: r => match arq h n us r with
  | none => none
  | some l => bif alm id us then some ((id, none) :: l) else
   match bf h id with
   | none => some ((id, none) :: l)
   | some b => bif bhe n b.b && Nat.blt id n then some ((id, some b) :: l) else none
def be2 : Hp → List Nat → List Nat
 | [], acc => acc
 | (id, _) :: r, acc => bif alm id acc then be2 r acc else be2 r (id :: acc)
def ao3 (hl : Nat → Option Blk) (f : List (Nat × AVal)) : List (Nat × Sh) → List (Nat × AVal)
 | [] => []
 | (t, s) :: r => (t, afv s (qb hl (look f t))) :: ao3 hl f r
def aok (f : List (Nat × AVal)) : List (Nat × Sh) → List Nat
 | [] => []
 | (t, _) :: r => jr (l8 (look f t)) (aok f r)
def ah9 (l : List (Nat × Sh)) (st : ASt) : ASt :=
 match l with
 | [] => st
 | l => { st with f := jr (ao3 (bf st.h) st.f l) st.f, h := jr (freeze (bf st.h) (aok st.f l) []) st.h }
def ax8 : AVal → Bool
 | .own _ | .win _ _ _ => true
 | _ => false
def azm (hl : Nat → Option Blk) (a : AVal) : AVal := bif ax8 a then qb hl a else a
def aps (hl : Nat → Option Blk) : List AVal → List AVal
 | [] => []
 | a :: r => azm hl a :: aps hl r
def ak1 : List AVal → List Nat
 | [] => []
 | a :: r => bif ax8 a then jr (l8 a) (ak1 r) else ak1 r
def ain (h : Hp) : List Nat → List Nat
 | [] => []
 | id :: r => match bf h id with
  | some ⟨.box _ l, _⟩ => jr (ak1 l) (ain h r)
  | _ => ain h r
def agi (hl : Nat → Option Blk) (h : Hp) : List Nat → Hp
 | [] => []
 | id :: r => match bf h id with
  | some ⟨.box e l, f⟩ => (id, some ⟨.box e (aps hl l), f⟩) :: agi hl h r
  | _ => agi hl h r
def vo (ids : List Nat) (st : ASt) : ASt :=
 match ids with
 | [] => st
 | ids => { st with h := jr (agi (bf st.h) (jr (freeze (bf st.h) (ain st.h ids) []) st.h) ids) (jr (freeze (bf st.h) (ain st.h ids) []) st.h) }
def as2 : List AVal → List Nat
 | [] => []
 | .ptr j 0 :: r => j :: as2 r
 | _ :: r => as2 r
def bfy (f : List (Nat × AVal)) : List Oper → List (Nat × AVal)
 | [] => f
 | o :: r => match o.dst, o.op with
  | some d, .move x => bfy ((d, ev f x) :: f) r
  | _, _ => bfy f r
def ajq (D : Ctx) (f : List (Nat × AVal)) : List Oper → List Nat
 | [] => []
 | o :: r => match o.op with
  | .makeFunc _ first captured => lun (jr (as2 (evs f first.toList)) (as2 (evs f captured.toList))) (ajq D f r)
  | .call _ => match bip f o.op with
   | some (g, as) => match am2 D.inl g with
    | some _ => ajq D f r
    | none => lun (as2 as) (ajq D f r)
   | none => ajq D f r
  | _ => ajq D f r
def bmm (id : Nat) (l : List AVal) : AVal → AVal
 | .ptr j 0 => bif Nat.beq id j then .sta l else .ptr j 0
 | a => a
def bhf (id : Nat) (l : List AVal) : List (Nat × AVal) → List (Nat × AVal)
 | [] => []
 | (t, a) :: r => (t, bmm id l a) :: bhf id l r
def ala (id : Nat) (st : ASt) : ASt :=
 match bf st.h id with
 | some ⟨.box _ l, _⟩ => bif aif 0 l then { st with f := bhf id l st.f, h := jr (freeze (bf st.h) [id] []) st.h } else st
 | _ => st
def amn : List Nat → ASt → ASt
 | [], st => st
 | id :: r, st => amn r (ala id st)
def be1 (D : Ctx) (ops : List Oper) (st : ASt) : ASt := bif D.sta then amn (ajq D (bfy st.f ops) ops) (vo (ajq D (bfy st.f ops) ops) st) else st
def coB (h : Hp) : List (Nat × List Sh) → Hp
 | [] => []
 | (id, s) :: r => match bf h id with
  | some ⟨.box e l, f⟩ => (id, some ⟨.box e (pq s l), f⟩) :: coB h r
  | _ => coB h r
def bbk (l : List (Nat × List Sh)) (st : ASt) : ASt :=
 match l with
 | [] => st
 | l => { st with h := jr (coB st.h l) st.h }
def aze (id : Nat) (d : List AVal) (st : ASt) : ASt :=
 match bf st.h id with
 | some ⟨.box e [.v (.pointer none)], f⟩ => { st with h := (id, some ⟨.box e [.osta 0 d], f⟩) :: st.h }
 | some ⟨.box _ [.ptr j 0], _⟩ => match bf (vo [j] st).h id, bf (vo [j] st).h j with
  | some ⟨.box e [.ptr j' 0], f⟩, some ⟨.box _ l, _⟩ => bif Nat.beq j' j && aif 0 l && !Nat.beq id j then
      { vo [j] st with h := (id, some ⟨.box e [.osta 1 l], f⟩) :: jr (freeze (bf (vo [j] st).h) [j] []) (vo [j] st).h } else vo [j] st
  | _, _ => vo [j] st
 | _ => st
def ayq : List (Nat × List AVal) → ASt → ASt
 | [], st => st
 | (id, d) :: r, st => ayq r (aze id d st)
def ak3 (h : Hint) (st : ASt) : ASt := ayq h.osb (bbk h.shc (vo h.shb (ah9 h.sls st)))
def bd3 (h : Hint) (st : ASt) : List Nat :=
 match h.gc with
 | none => be2 st.h []
 | some (_, l) => l
def bci (h : Hint) (n : Nat) : Nat :=
 match h.gc with
 | none => n
 | some (m, _) => bif Nat.ble n m then m else n
def azt (h : Hp) (b : Nat) : AVal := match bf h b with
 | some ⟨.box _ [.own j], _⟩ => .own j
 | some ⟨.box _ [.v (.slice none 0 0)], _⟩ => .v (.slice none 0 0)
 | _ => .bot
def ba1 (st : ASt) (t : Nat) : AVal := bif Nat.blt t 1000000 then look st.f t else azt st.h (t - 1000000)
def bej : List (Nat × TypeId × Cont) → List Nat
 | [] => []
 | (t, _, _) :: r => bif Nat.blt t 1000000 then bej r else (t - 1000000) :: bej r
def clr (h : Hp) : List Nat → Hp
 | [] => []
 | b :: r => match bf h b with
  | some ⟨.box e [.own _], f⟩ => (b, some ⟨.box e [.bot], f⟩) :: clr h r
  | some ⟨.box e [.v (.slice none 0 0)], f⟩ => (b, some ⟨.box e [.bot], f⟩) :: clr h r
  | _ => clr h r
def bhg (h : Hp) (l : List Nat) : Hp := match l with
 | [] => h
 | l => jr (clr h l) h
def slotsOf : List (Nat × AVal) → List (Nat × AVal)
 | [] => []
 | (t, x) :: r => bif Nat.blt t 1000000 then (t, x) :: slotsOf r else slotsOf r
def bi3 (fs : List (Nat × AVal)) (id : Nat) (b : Option Blk) : Option Blk := match b with
 | some ⟨.box e [.bot], f⟩ => match assoc fs (id + 1000000) with
  | some x => some ⟨.box e [x], f⟩
  | none => b
 | _ => b
def ayc (fs : List (Nat × AVal)) : Hp → Hp
 | [] => []
 | (id, b) :: r => (id, bi3 fs id b) :: ayc fs r
def bdp (fs : List (Nat × AVal)) (l : List Nat) (h : Hp) : Hp := match l with
 | [] => h
 | _ => ayc fs h
def norm (h : Hint) (n : Nat) (ids : List Nat) (st : ASt) : Option ASt :=
 match keepR (ba1 st) (bhg st.h (bej h.rows)) n h.rows with
 | none => none
 | some (fs, hs, us) => match azn st.f n h.keep, arq (bhg st.h (bej h.rows)) n us ids with
  | some f, some hh => some { f := jr (slotsOf fs) f, h := bdp fs (bej h.rows) (jr hs hh), n := n + h.rows.length, m := st.m }
  | _, _ => none
def ao9 : List (Nat × wz) → Nat → Option wz
 | [], _ => none
 | (k, s) :: r, t => bif Nat.beq k t then some s else ao9 r t
def bbh (f : List (Nat × AVal)) : List Nat → List (Nat × AVal)
 | [] => []
 | t :: r => (t, look f t) :: bbh f r
def bea (h : Hint) (n : Nat) (ids : List Nat) (K : AExit → ASt → Option R) (next : ASt → Option R) (ex : AExit) (st : ASt) : Option R :=
 match ex with
 | .normal => match norm h n ids (ak3 h st) with
  | some st => next st
  | none => none
 | .exit id => match norm h n ids (ak3 h st) with
  | some st => K (.exit id) st
  | none => none
 | .ret => K .ret { st with f := bbh st.f h.boxes }
def iter (h : Hint) (n : Nat) (ids : List Nat) (F : ASt → (AExit → ASt → Option R) → Option R) (K : AExit → ASt → Option R) : Nat → ASt → Option R
 | 0, st => F st (bea h n ids K fun _ => none)
 | k + 1, st => F st (bea h n ids K (iter h n ids F K k))
def keysOf : Hp → List Nat
 | [] => []
 | (id, _) :: r => id :: keysOf r
def ane {α : Type} : Nat → List α → List α
 | 0, l => l
 | _ + 1, [] => []
 | n + 1, _ :: r => ane n r
def apc : List (Nat × RngE) → Nat → Option RngE
 | [], _ => none
 | (k, s) :: r, t => bif Nat.beq k t then some s else apc r t
def looks (f : List (Nat × AVal)) : List Nat → List AVal
 | [] => []
 | t :: r => look f t :: looks f r
def asw (id : Nat) : Hp → Bool
 | [] => true
 | (_, some ⟨.box _ l, _⟩) :: r => !jm id l && asw id r
 | _ :: r => asw id r
def noY : Option YCtx → Bool
 | none => true
 | some _ => false
def bey (D : Ctx) (st : ASt) (g : Operand) (body : Code) : Option (RngE × List AVal × List AVal) :=
 match ev st.f g with
 | .fn (.func gid) first caps => match apc D.rng (fq body) with
  | some e => bif D.top && noY D.y && Nat.beq gid e.g && Nat.beq st.m e.m then some (e, first, caps) else none
  | none => none
 | _ => none
def aa8 (D : Ctx) : Code → ASt → (AExit → ASt → Option R) → Option R
 | .skip, st, K => K .normal st
 | .label _, st, K => K .normal st
 | .region _ ops false, st, K => bf1 D ops ops.toList (be1 D ops.toList st) fun st => K .normal st
 | .region _ ops true, st, K => beb D ops (be1 D ops.toList st) fun st => K .normal st
 | .seq a b, st, K => aa8 D a st fun ex st' => match ex with
  | .normal => aa8 D b st' K
  | .exit id => K (.exit id) st'
  | .ret => K .ret st'
 | .cond c x y, st, K => match ev st.f c with
  | .v (.bool b) => br b (aa8 D x st K) (aa8 D y st K)
  | _ => none
 | .block id c, st, K => aa8 D c st fun ex st' => match ex with
  | .normal => K .normal st'
  | .exit j => bif Nat.beq j id then K .normal st' else K (.exit j) st'
  | .ret => K .ret st'
 | .loop c, st, K => match norm (hintOf D.hints (fq c)) (bci (hintOf D.hints (fq c)) st.n) (bd3 (hintOf D.hints (fq c)) (ak3 (hintOf D.hints (fq c)) st)) (ak3 (hintOf D.hints (fq c)) st) with
  | none => none
  | some st => match ao9 D.loops (fq c) with
   | some s => s st K
   | none => none
 | .exit id, st, K => K (.exit id) st
 | .ret, st, K => K .ret st
 | .rangeFunc g _ _ body, st, K => match bey D st g body with
  | some (e, first, caps) => e.s (jr first (.yld st.n e.ts (looks st.f e.ts) :: caps)) st.h (st.n + 1) fun _ h n => bif asw st.n h then K .normal { f := st.f, h := h, n := n, m := st.m } else none
  | none => none
 | _, _, _ => none
def bn : Code → List Code
 | .seq a b => bn a ++ bn b
 | .cond _ a b => bn a ++ bn b
 | .block _ c => bn c
 | .loop c => c :: bn c
 | _ => []
def o7 : Code → List Code
 | .seq a b => o7 a ++ o7 b
 | .cond _ a b => o7 a ++ o7 b
 | .block _ c => o7 c
 | .loop c => o7 c
 | .rangeFunc g ps a b => [.rangeFunc g ps a b]
 | _ => []
def ayb : List Nat → List AVal → List (Nat × AVal)
 | t :: ts, a :: r => (t, a) :: ayb ts r
 | _, _ => []
def ay9 (m : Nat) : List Nat → Bool
 | [] => true
 | t :: r => Nat.blt t m && ay9 m r
def itA (D : Ctx) (c : Code) (K : AExit → ASt → Option R) (k : Nat) (st : ASt) : Option R :=
 iter (hintOf D.hints (fq c)) (st.n - (hintOf D.hints (fq c)).rows.length) (keysOf (ane (hintOf D.hints (fq c)).rows.length st.h)) (aa8 D c) K k st
def l7 (D : Ctx) (c : Code) : Prop := ∀ s, ao9 D.loops (fq c) = some s → ∀ st K r, s st K = some r → ∃ k, itA D c K k st = some r
mutual
def ajp : AVal → List Nat
 | .win j _ _ | .awin j _ _ _ _ => [j]
 | .agg l | .tuple l => abq l
 | .fn _ a b => jr (jk a) (jk b)
 | .alt _ _ a b _ c d => jr (jr (jk a) (jk b)) (jr (jk c) (jk d))
 | .iface _ x => l8 x
 | _ => []
def abq : List AVal → List Nat
 | [] => []
 | a :: r => jr (ajp a) (abq r)
end
mutual
def al2 (hl : Nat → Option Blk) : AVal → AVal
 | .own id => match hl id with
  | some ⟨.row e c, false⟩ => .fr e c
  | some ⟨.row _ c, true⟩ => .sl c
  | _ => .bot
 | .agg l => .agg (aje hl l)
 | .tuple l => .tuple (aje hl l)
 | a => qb hl a
def aje (hl : Nat → Option Blk) : List AVal → List AVal
 | [] => []
 | a :: r => al2 hl a :: aje hl r
end
mutual
def ai7 : AVal → List Nat
 | .own j => [j]
 | .agg l | .tuple l => aer l
 | _ => []
def aer : List AVal → List Nat
 | [] => []
 | a :: r => jr (ai7 a) (aer r)
end
def adr : List Nat → Bool
 | [] => true
 | a :: r => !alm a r && adr r
mutual
def arl : Sh → AVal → AVal
 | .sl c, a => as0 c (.sl c) a
 | .fr e c, a => as0 c (.fr e c) a
 | .agg ss, .agg l => .agg (aue ss l)
 | .agg ss, .fn f a c => .fn f a (pq ss c)
 | .alt f fa fc g ga gc, a => anx f fa fc g ga gc a
 | _, a => a
def aue : List Sh → List AVal → List AVal
 | s :: ss, a :: r => arl s a :: aue ss r
 | _, l => l
end
mutual
def bdy : Sh → AVal → List Nat
 | .sl _, .own j => [j]
 | .agg ss, .agg l => ac1 ss l
 | _, _ => []
def ac1 : List Sh → List AVal → List Nat
 | s :: ss, a :: r => jr (bdy s a) (ac1 ss r)
 | _, _ => []
end
def cellV (D : Ctx) (st : ASt) (t : Nat) (ty : TypeId) : Option AVal :=
 match aa9 D.P ty, jc D.P ty with
 | some g, some sz => match placeOf D (bf st.h) (look st.f t) sz with
  | some mid => bif g then some (alq mid) else match mid with
   | [.arr ..] => none
   | [a] => some a
   | _ => none
  | none => none
 | _, _ => none
def ba4 (D : Ctx) (st : ASt) : List ResultVar → Option (List AVal)
 | [] => some []
 | .tmp t :: r => match ba4 D st r with
  | some l => some (look st.f t :: l)
  | none => none
 | .cell t ty :: r => match cellV D st t ty, ba4 D st r with
  | some a, some l => some (a :: l)
  | _, _ => none
def oneOf : List AVal → AVal
 | [a] => a
 | l => .tuple l
def bdc (D : Ctx) (sig : List Sh) (fn : Func) (st : ASt) (K : AVal → Option R) : Option R :=
 match ba4 D st fn.results.toList with
 | none => none
 | some l =>
  bif adr (aer l) then K (oneOf (aue sig (aje (bf (jr (freeze (bf st.h) (jr (abq l) (ac1 sig l)) []) st.h)) l))) else none
def ars (D : Ctx) (Y : YCtx) : bd4 := fun ts vs args h n K =>
 bif Nat.beq args.length Y.ps.size && adr Y.ps.toList && ay9 Y.m Y.ps.toList then
  aa8 D Y.assign ⟨jr (ayb Y.ps.toList args) (ayb ts vs), h, n, Y.m⟩ fun ex st => match ex with
   | .normal => aa8 D Y.body st fun ex st => match ex with
    | .normal => K st.h st.n
    | _ => none
   | _ => none
 else none
def ahn : Nat → List AVal → List (Nat × AVal)
 | _, [] => []
 | i, a :: r => (i, a) :: ahn (i + 1) r
def bet (D : Ctx) (fn : Func) (sig : List Sh) (args : List AVal) (K : AVal → Option R) : Option R :=
 match fn.body with
 | none => none
 | some c => bif Nat.ble args.length fn.ntmps then
     aa8 D c ⟨ahn 0 args, [], 0, fn.ntmps⟩ fun ex st => match ex with
      | .exit _ => none
      | .normal => bdc D sig fn st K
      | .ret => bdc D sig fn st K
  else none
def ajb (D : Ctx) (fn : Func) : aog := fun args h n K =>
 match fn.body with
 | none => none
 | some c => bif Nat.ble args.length fn.ntmps then
     aa8 D c ⟨ahn 0 args, h, n, fn.ntmps⟩ fun ex st => match ex with
      | .exit _ => none
      | .normal => outIn D fn st K
      | .ret => outIn D fn st K
  else none
 where outIn (D : Ctx) (fn : Func) (st : ASt) (K : AVal → Hp → Nat → Option R) : Option R :=
 match ba4 D st fn.results.toList with
 | none => none
 | some l => K (oneOf l) st.h st.n
end Go.Abs
