/-
  ForsGrows, part 5: an interpreter of my own over abstract values, the pure functions, the walks and the plain law.
-/

import Derived.Test.YtjhnljhjpnjieaaGreatDoorForsGrowsD

namespace Go.Abs
open Go Go.RowKit
set_option linter.unusedVariables false
set_option linter.unusedSimpArgs false
def atn (ops : Array Oper) (j : Nat) : Option Nat := (ops[j]?).bind (·.dst)
def bdy (ops : Array Oper) (o : Oper) (st : ASt) (F : ASt → Option R) (S : ASt → Option R) : Option R :=
 match o.guard with
 | none => F st
 | some (j, want) => match atn ops j with
  | none => none
  | some t => match look st.f t with
   | .v (.bool b) => br b (bif want then F (st.put (some t) (.v (.bool true))) else S (st.put (some t) (.v (.bool true)))) (bif want then S (st.put (some t) (.v (.bool false))) else F (st.put (some t) (.v (.bool false))))
   | .v (.tuple _) => S st
   | _ => none
def av8 : List (Nat × ave) → Nat → Option ave
 | [], _ => none
 | (k, s) :: r, t => bif Nat.beq k t then some s else av8 r t
def bwb (f : List (Nat × AVal)) : Op → Option (Nat × List AVal)
 | .call { callee := .value x, args, .. } => match ev f x with
  | .fn (.func g) first caps => some (g, ni first (ni (evs f args.toList) caps))
  | _ => none
 | _ => none
def bli (D : Ctx) (f : List (Nat × AVal)) (op : Op) : Option (ave × List AVal) :=
 match bwb f op with
 | some (g, as) => match av8 D.inl g with
  | some s => some (s, as)
  | none => none
 | none => none
def bph (f : List (Nat × AVal)) : Op → Option (List Nat × List AVal × List AVal)
 | .call { callee := .value x, args, .. } => match ev f x with
  | .yld _ ts vs => some (ts, vs, evs f args.toList)
  | _ => none
 | _ => none
def doA (D : Ctx) (o : Oper) (st : ASt) (K : ASt → Option R) : Option R :=
 match bph st.f o.op with
 | some (ts, vs, as) => match D.ys with
  | some s => s ts vs as st.h st.n fun h n => K { f := bnj st.m o.dst (.v (.bool true)) st.f, h := h, n := n, m := st.m }
  | none => none
 | none => match bli D st.f o.op with
 | some (s, as) => s as st.h st.n fun v h n => K { f := bnj st.m o.dst v st.f, h := h, n := n, m := st.m }
 | none => opA D o st fun e => K (st.app e o.dst)
def bpz (D : Ctx) (ops : Array Oper) : List Oper → ASt → (ASt → Option R) → Option R
 | [], st, K => K st
 | o :: rest, st, K => bdy ops o st (fun st => doA D o st fun st => bpz D ops rest st K) (fun st => bpz D ops rest (st.put o.dst (.v undef)) K)
structure Info where
 looks : List Nat
 dst : Option Nat
 vs : List AVal
 puts : Hp
 cl : List Nat
def tmpsOf : List Operand → List Nat
 | [] => []
 | .tmp t :: r => t :: tmpsOf r
 | _ :: r => tmpsOf r
def nth {α : Type} : List α → Nat → Option α
 | [], _ => none
 | a :: _, 0 => some a
 | _ :: r, n + 1 => nth r n
def lun : List Nat → List Nat → List Nat
 | [], l => l
 | a :: r, l => bif ar5 a l then lun r l else a :: lun r l
def bkf (acc : List Info) (i : Nat) : List Edge → Option (List Nat)
 | [] => some []
 | e :: r => bif Region.binds .any e then
     bif Nat.blt e.on i then
      match nth acc (i - 1 - e.on), bkf acc i r with
      | some x, some l => some (lun (e.on :: x.cl) l)
      | _, _ => none
     else none
  else bkf acc i r
def ayt (d : Option Nat) (l : List Nat) : Bool :=
 match d with
 | none => false
 | some d => ar5 d l
def at5 (d d' : Option Nat) : Bool :=
 match d, d' with
 | some d, some d' => Nat.beq d d'
 | _, _ => false
def an7 : Hp → List AVal → Hp → Bool
 | [], _, _ => false
 | (id, _) :: r, vs, h => l6 id vs || (assoc h id).isSome || an7 r vs h
def aun (x y : Info) : Bool :=
 !(ayt x.dst y.looks || ayt y.dst x.looks || at5 x.dst y.dst || an7 x.puts y.vs y.puts || an7 y.puts x.vs x.puts)
def az4 : List Info → Nat → Info → Bool
 | [], _, _ => true
 | x :: r, n, y => (ar5 (n - 1) y.cl || aun x y) && az4 r (n - 1) y
def beo (ops : Array Oper) (o : Oper) : List Nat :=
 match o.guard with
 | some (j, _) => (atn ops j).toList
 | none => []
def bm9 (ops : Array Oper) (o : Oper) (vs : List AVal) (puts : Hp) (cl : List Nat) : Info := ⟨ni (beo ops o) (tmpsOf (akp o.op)), o.dst, vs, puts, cl⟩
def ayo (ops : Array Oper) (o : Oper) (cl : List Nat) : Info := ⟨beo ops o, o.dst, [], [], cl⟩
def be0 (acc : List Info) (i : Nat) (I : Info) (F : List Info → Option R) : Option R := bif az4 acc i I then F (I :: acc) else none
def ax4 (op : Op) (vs : List AVal) : List AVal :=
 match op with
 | .move _ | .assign _ | .pick _ _ _ | .nilCheck _ | .makeFunc _ _ _ | .makeInterface _ _ | .fieldAddr _ _ _ | .box _ _ => []
 | _ => vs
def opD (D : Ctx) (o : Oper) (st : ASt) (K : Eff → Option R) : Option R :=
 core D o.op (evs st.f (akp o.op)) (mask (ax4 o.op (evs st.f (akp o.op))) st.h) st.n K
def ayx (D : Ctx) (ops : Array Oper) : List Oper → Nat → List Info → ASt → (List Info → ASt → Option R) → Option R
 | [], _, acc, st, K => K acc st
 | o :: rest, i, acc, st, K =>
  match bkf acc i o.after.toList with
  | none => none
  | some cl =>
   bdy ops o st
    (fun st => opD D o st fun e => be0 acc i (bm9 ops o (ax4 o.op (evs st.f (akp o.op))) e.puts cl) fun acc => ayx D ops rest (i + 1) acc (st.app e o.dst) K)
    (fun st => be0 acc i (ayo ops o cl) fun acc => ayx D ops rest (i + 1) acc (st.put o.dst (.v undef)) K)
def bbh {α : Type} : List α → Option (List α × α)
 | [] => none
 | a :: r => match bbh r with
  | some (x, y) => some (a :: x, y)
  | none => some ([], a)
def allIn : Nat → List Nat → Bool
 | 0, _ => true
 | n + 1, l => ar5 n l && allIn n l
def bnf (D : Ctx) (ops : Array Oper) (st : ASt) (K : ASt → Option R) : Option R :=
 match bbh ops.toList with
 | some (l0, o) => bif (bli D [] o.op).isSome && o.guard.isNone then
     ayx D ops l0 0 [] st fun acc st => match bkf acc l0.length o.after.toList with
      | some cl => bif allIn l0.length cl then doA D o st K else none
      | none => none
  else ayx D ops ops.toList 0 [] st fun _ => K
 | none => ayx D ops ops.toList 0 [] st fun _ => K
def jd : Code → Nat
 | .region id _ _ => id
 | .seq a _ => jd a
 | .block _ b => jd b
 | .loop b => jd b
 | .scope b => jd b
 | _ => 0
def hintOf : List (Nat × Hint) → Nat → Hint
 | [], _ => ⟨[], [], [], [], none, [], []⟩
 | (k, h) :: r, t => bif Nat.beq k t then h else hintOf r t
def bsu (n : Nat) : Bk → Bool
 | .row _ _ => true
 | .box _ l => asn n l
def bi7 (f : List (Nat × AVal)) (n : Nat) : List Nat → Option (List (Nat × AVal))
 | [] => some []
 | t :: r => bif bnd n (look f t) then
     match bi7 f n r with
     | some l => some ((t, look f t) :: l)
     | none => none
  else none
def keepR (g : Nat → AVal) (h : Hp) : Nat → List (Nat × TypeId × Cont) → Option (List (Nat × AVal) × Hp × List Nat)
 | _, [] => some ([], [], [])
 | n, (t, e, c0) :: r => match keepR g h (n + 1) r with
  | none => none
  | some (fs, hs, us) => match g t with
   | .own id => match eu h id with
    | some ⟨.row e' c, false⟩ => bif Nat.beq e e' && !ar5 id us then some ((t, .own n) :: fs, (n, some ⟨.row e c, false⟩) :: hs, id :: us) else none
    | _ => none
   | .win id 0 len => match eu h id with
    | some ⟨.row e' c, false⟩ => bif Nat.beq e e' && !ar5 id us then some ((t, .own n) :: fs, (n, some ⟨.row e (c.take len), false⟩) :: hs, id :: us) else none
    | _ => none
   | .v (.slice none 0 0) => bif Nat.beq c0.len 0 then some ((t, .own n) :: fs, (n, some ⟨.row e c0, false⟩) :: hs, us) else none
   | _ => none
def bbl (h : Hp) (n : Nat) (us : List Nat) : List Nat → Option Hp
 | [] => some []
 | id :: r => match bbl h n us r with
  | none => none
  | some l => bif ar5 id us then some ((id, none) :: l) else
   match eu h id with
   | none => some ((id, none) :: l)
   | some b => bif bsu n b.b && Nat.blt id n then some ((id, some b) :: l) else none
def bn4 : Hp → List Nat → List Nat
 | [], acc => acc
 | (id, _) :: r, acc => bif ar5 id acc then bn4 r acc else bn4 r (id :: acc)
def avt (hl : Nat → Option Blk) (f : List (Nat × AVal)) : List (Nat × Sh) → List (Nat × AVal)
 | [] => []
 | (t, s) :: r => (t, akq s (vo hl (look f t))) :: avt hl f r
def av3 (f : List (Nat × AVal)) : List (Nat × Sh) → List Nat
 | [] => []
 | (t, _) :: r => ni (pq (look f t)) (av3 f r)
def anm (l : List (Nat × Sh)) (st : ASt) : ASt :=
 match l with
 | [] => st
 | l => { st with f := ni (avt (eu st.h) st.f l) st.f, h := ni (freeze (eu st.h) (av3 st.f l) []) st.h }
def bfs : AVal → Bool
 | .own _ | .win _ _ _ => true
 | _ => false
def bie (hl : Nat → Option Blk) (a : AVal) : AVal := bif bfs a then vo hl a else a
def aws (hl : Nat → Option Blk) : List AVal → List AVal
 | [] => []
 | a :: r => bie hl a :: aws hl r
def aq8 : List AVal → List Nat
 | [] => []
 | a :: r => bif bfs a then ni (pq a) (aq8 r) else aq8 r
def ao8 (h : Hp) : List Nat → List Nat
 | [] => []
 | id :: r => match eu h id with
  | some ⟨.box _ l, _⟩ => ni (aq8 l) (ao8 h r)
  | _ => ao8 h r
def akv (hl : Nat → Option Blk) (h : Hp) : List Nat → Hp
 | [] => []
 | id :: r => match eu h id with
  | some ⟨.box e l, f⟩ => (id, some ⟨.box e (aws hl l), f⟩) :: akv hl h r
  | _ => akv hl h r
def aox (ids : List Nat) (st : ASt) : ASt :=
 match ids with
 | [] => st
 | ids => { st with h := ni (akv (eu st.h) (ni (freeze (eu st.h) (ao8 st.h ids) []) st.h) ids) (ni (freeze (eu st.h) (ao8 st.h ids) []) st.h) }
def bfh : List AVal → List Nat
 | [] => []
 | .ptr j 0 :: r => j :: bfh r
 | _ :: r => bfh r
def axa (f : List (Nat × AVal)) : List Oper → List Nat
 | [] => []
 | o :: r => match o.op with
  | .makeFunc _ first captured => lun (ni (bfh (evs f first.toList)) (bfh (evs f captured.toList))) (axa f r)
  | _ => axa f r
def b2i (id : Nat) (l : List AVal) : AVal → AVal
 | .ptr j 0 => bif Nat.beq id j then .sta l else .ptr j 0
 | a => a
def bt2 (id : Nat) (l : List AVal) : List (Nat × AVal) → List (Nat × AVal)
 | [] => []
 | (t, a) :: r => (t, b2i id l a) :: bt2 id l r
def aq5 (id : Nat) (st : ASt) : ASt :=
 match eu st.h id with
 | some ⟨.box _ l, _⟩ => bif asn 0 l then { st with f := bt2 id l st.f, h := ni (freeze (eu st.h) [id] []) st.h } else st
 | _ => st
def au2 : List Nat → ASt → ASt
 | [], st => st
 | id :: r, st => au2 r (aq5 id st)
def bn1 (D : Ctx) (ops : List Oper) (st : ASt) : ASt := bif D.sta then au2 (axa st.f ops) (aox (axa st.f ops) st) else st
def coB (h : Hp) : List (Nat × List Sh) → Hp
 | [] => []
 | (id, s) :: r => match eu h id with
  | some ⟨.box e l, f⟩ => (id, some ⟨.box e (om s l), f⟩) :: coB h r
  | _ => coB h r
def bj4 (l : List (Nat × List Sh)) (st : ASt) : ASt :=
 match l with
 | [] => st
 | l => { st with h := ni (coB st.h l) st.h }
def arq (h : Hint) (st : ASt) : ASt := bj4 h.shc (aox h.shb (anm h.sls st))
def bn8 (h : Hint) (st : ASt) : List Nat :=
 match h.gc with
 | none => bn4 st.h []
 | some (_, l) => l
def bkq (h : Hint) (n : Nat) : Nat :=
 match h.gc with
 | none => n
 | some (m, _) => bif Nat.ble n m then m else n
def bjr (h : Hp) (b : Nat) : AVal := match eu h b with
 | some ⟨.box _ [.own j], _⟩ => .own j
 | some ⟨.box _ [.v (.slice none 0 0)], _⟩ => .v (.slice none 0 0)
 | _ => .bot
def bhw (st : ASt) (t : Nat) : AVal := bif Nat.blt t 1000000 then look st.f t else bjr st.h (t - 1000000)
def bpm : List (Nat × TypeId × Cont) → List Nat
 | [] => []
 | (t, _, _) :: r => bif Nat.blt t 1000000 then bpm r else (t - 1000000) :: bpm r
def clr (h : Hp) : List Nat → Hp
 | [] => []
 | b :: r => match eu h b with
  | some ⟨.box e [.own _], f⟩ => (b, some ⟨.box e [.bot], f⟩) :: clr h r
  | some ⟨.box e [.v (.slice none 0 0)], f⟩ => (b, some ⟨.box e [.bot], f⟩) :: clr h r
  | _ => clr h r
def brd (h : Hp) (l : List Nat) : Hp := match l with
 | [] => h
 | l => ni (clr h l) h
def slotsOf : List (Nat × AVal) → List (Nat × AVal)
 | [] => []
 | (t, x) :: r => bif Nat.blt t 1000000 then (t, x) :: slotsOf r else slotsOf r
def buy (fs : List (Nat × AVal)) (id : Nat) (b : Option Blk) : Option Blk := match b with
 | some ⟨.box e [.bot], f⟩ => match assoc fs (id + 1000000) with
  | some x => some ⟨.box e [x], f⟩
  | none => b
 | _ => b
def bgh (fs : List (Nat × AVal)) : Hp → Hp
 | [] => []
 | (id, b) :: r => (id, buy fs id b) :: bgh fs r
def bmv (fs : List (Nat × AVal)) (l : List Nat) (h : Hp) : Hp := match l with
 | [] => h
 | _ => bgh fs h
def norm (h : Hint) (n : Nat) (ids : List Nat) (st : ASt) : Option ASt :=
 match keepR (bhw st) (brd st.h (bpm h.rows)) n h.rows with
 | none => none
 | some (fs, hs, us) => match bi7 st.f n h.keep, bbl (brd st.h (bpm h.rows)) n us ids with
  | some f, some hh => some { f := ni (slotsOf fs) f, h := bmv fs (bpm h.rows) (ni hs hh), n := n + h.rows.length, m := st.m }
  | _, _ => none
def awm : List (Nat × qc) → Nat → Option qc
 | [], _ => none
 | (k, s) :: r, t => bif Nat.beq k t then some s else awm r t
def bmd (f : List (Nat × AVal)) : List Nat → List (Nat × AVal)
 | [] => []
 | t :: r => (t, look f t) :: bmd f r
def bmp (h : Hint) (n : Nat) (ids : List Nat) (K : AExit → ASt → Option R) (next : ASt → Option R) (ex : AExit) (st : ASt) : Option R :=
 match ex with
 | .normal => match norm h n ids (arq h st) with
  | some st => next st
  | none => none
 | .exit id => match norm h n ids (arq h st) with
  | some st => K (.exit id) st
  | none => none
 | .ret => K .ret { st with f := bmd st.f h.boxes }
def iter (h : Hint) (n : Nat) (ids : List Nat) (F : ASt → (AExit → ASt → Option R) → Option R) (K : AExit → ASt → Option R) : Nat → ASt → Option R
 | 0, st => F st (bmp h n ids K fun _ => none)
 | k + 1, st => F st (bmp h n ids K (iter h n ids F K k))
def keysOf : Hp → List Nat
 | [] => []
 | (id, _) :: r => id :: keysOf r
def as7 {α : Type} : Nat → List α → List α
 | 0, l => l
 | _ + 1, [] => []
 | n + 1, _ :: r => as7 n r
def awy : List (Nat × RngE) → Nat → Option RngE
 | [], _ => none
 | (k, s) :: r, t => bif Nat.beq k t then some s else awy r t
def looks (f : List (Nat × AVal)) : List Nat → List AVal
 | [] => []
 | t :: r => look f t :: looks f r
def ba3 (id : Nat) : Hp → Bool
 | [] => true
 | (_, some ⟨.box _ l, _⟩) :: r => !l6 id l && ba3 id r
 | _ :: r => ba3 id r
def noY : Option YCtx → Bool
 | none => true
 | some _ => false
def bnt (D : Ctx) (st : ASt) (g : Operand) (body : Code) : Option (RngE × List AVal × List AVal) :=
 match ev st.f g with
 | .fn (.func gid) first caps => match awy D.rng (jd body) with
  | some e => bif D.top && noY D.y && Nat.beq gid e.g && Nat.beq st.m e.m then some (e, first, caps) else none
  | none => none
 | _ => none
def adq (D : Ctx) : Code → ASt → (AExit → ASt → Option R) → Option R
 | .skip, st, K => K .normal st
 | .label _, st, K => K .normal st
 | .region _ ops false, st, K => bpz D ops ops.toList (bn1 D ops.toList st) fun st => K .normal st
 | .region _ ops true, st, K => bnf D ops (bn1 D ops.toList st) fun st => K .normal st
 | .seq a b, st, K => adq D a st fun ex st' => match ex with
  | .normal => adq D b st' K
  | .exit id => K (.exit id) st'
  | .ret => K .ret st'
 | .cond c x y, st, K => match ev st.f c with
  | .v (.bool b) => br b (adq D x st K) (adq D y st K)
  | _ => none
 | .block id c, st, K => adq D c st fun ex st' => match ex with
  | .normal => K .normal st'
  | .exit j => bif Nat.beq j id then K .normal st' else K (.exit j) st'
  | .ret => K .ret st'
 | .loop c, st, K => match norm (hintOf D.hints (jd c)) (bkq (hintOf D.hints (jd c)) st.n) (bn8 (hintOf D.hints (jd c)) (arq (hintOf D.hints (jd c)) st)) (arq (hintOf D.hints (jd c)) st) with
  | none => none
  | some st => match awm D.loops (jd c) with
   | some s => s st K
   | none => none
 | .exit id, st, K => K (.exit id) st
 | .ret, st, K => K .ret st
 | .rangeFunc g _ _ body, st, K => match bnt D st g body with
  | some (e, first, caps) => e.s (ni first (.yld st.n e.ts (looks st.f e.ts) :: caps)) st.h (st.n + 1) fun _ h n => bif ba3 st.n h then K .normal { f := st.f, h := h, n := n, m := st.m } else none
  | none => none
 | _, _, _ => none
def cu : Code → List Code
 | .seq a b => cu a ++ cu b
 | .cond _ a b => cu a ++ cu b
 | .block _ c => cu c
 | .loop c => c :: cu c
 | _ => []
def tq : Code → List Code
 | .seq a b => tq a ++ tq b
 | .cond _ a b => tq a ++ tq b
 | .block _ c => tq c
 | .loop c => tq c
 | .rangeFunc g ps a b => [.rangeFunc g ps a b]
 | _ => []
def bgg : List Nat → List AVal → List (Nat × AVal)
 | t :: ts, a :: r => (t, a) :: bgg ts r
 | _, _ => []
def bg1 (m : Nat) : List Nat → Bool
 | [] => true
 | t :: r => Nat.blt t m && bg1 m r
def itA (D : Ctx) (c : Code) (K : AExit → ASt → Option R) (k : Nat) (st : ASt) : Option R :=
 iter (hintOf D.hints (jd c)) (st.n - (hintOf D.hints (jd c)).rows.length) (keysOf (as7 (hintOf D.hints (jd c)).rows.length st.h)) (adq D c) K k st
def jr (D : Ctx) (c : Code) : Prop := ∀ s, awm D.loops (jd c) = some s → ∀ st K r, s st K = some r → ∃ k, itA D c K k st = some r
mutual
def aok : AVal → List Nat
 | .win j _ _ | .awin j _ _ _ _ => [j]
 | .agg l | .tuple l => ae0 l
 | .fn _ a b => ni (lu a) (lu b)
 | .alt _ _ a b _ c d => ni (ni (lu a) (lu b)) (ni (lu c) (lu d))
 | .iface _ x => pq x
 | _ => []
def ae0 : List AVal → List Nat
 | [] => []
 | a :: r => ni (aok a) (ae0 r)
end
mutual
def avc (hl : Nat → Option Blk) : AVal → AVal
 | .own id => match hl id with
  | some ⟨.row e c, false⟩ => .fr e c
  | some ⟨.row _ c, true⟩ => .sl c
  | _ => .bot
 | .agg l => .agg (aot hl l)
 | .tuple l => .tuple (aot hl l)
 | a => vo hl a
def aot (hl : Nat → Option Blk) : List AVal → List AVal
 | [] => []
 | a :: r => avc hl a :: aot hl r
end
mutual
def ao4 : AVal → List Nat
 | .own j => [j]
 | .agg l | .tuple l => ait l
 | _ => []
def ait : List AVal → List Nat
 | [] => []
 | a :: r => ni (ao4 a) (ait r)
end
def ahg : List Nat → Bool
 | [] => true
 | a :: r => !ar5 a r && ahg r
mutual
def ay5 : Sh → AVal → AVal
 | .sl c, a => azt c (.sl c) a
 | .fr e c, a => azt c (.fr e c) a
 | .agg ss, .agg l => .agg (bbv ss l)
 | .agg ss, .fn f a c => .fn f a (om ss c)
 | .alt f fa fc g ga gc, a => auh f fa fc g ga gc a
 | _, a => a
def bbv : List Sh → List AVal → List AVal
 | s :: ss, a :: r => ay5 s a :: bbv ss r
 | _, l => l
end
mutual
def bnv : Sh → AVal → List Nat
 | .sl _, .own j => [j]
 | .agg ss, .agg l => agm ss l
 | _, _ => []
def agm : List Sh → List AVal → List Nat
 | s :: ss, a :: r => ni (bnv s a) (agm ss r)
 | _, _ => []
end
def cellV (D : Ctx) (st : ASt) (t : Nat) (ty : TypeId) : Option AVal :=
 match adb D.P ty, jq D.P ty with
 | some g, some sz => match placeOf D (eu st.h) (look st.f t) sz with
  | some mid => bif g then some (ar8 mid) else match mid with
   | [.arr ..] => none
   | [a] => some a
   | _ => none
  | none => none
 | _, _ => none
def bjv (D : Ctx) (st : ASt) : List ResultVar → Option (List AVal)
 | [] => some []
 | .tmp t :: r => match bjv D st r with
  | some l => some (look st.f t :: l)
  | none => none
 | .cell t ty :: r => match cellV D st t ty, bjv D st r with
  | some a, some l => some (a :: l)
  | _, _ => none
def oneOf : List AVal → AVal
 | [a] => a
 | l => .tuple l
def bmn (D : Ctx) (sig : List Sh) (fn : Func) (st : ASt) (K : AVal → Option R) : Option R :=
 match bjv D st fn.results.toList with
 | none => none
 | some l =>
  bif ahg (ait l) then K (oneOf (bbv sig (aot (eu (ni (freeze (eu st.h) (ni (ae0 l) (agm sig l)) []) st.h)) l))) else none
def azr (D : Ctx) (Y : YCtx) : bpa := fun ts vs args h n K =>
 bif Nat.beq args.length Y.ps.size && ahg Y.ps.toList && bg1 Y.m Y.ps.toList then
  adq D Y.assign ⟨ni (bgg Y.ps.toList args) (bgg ts vs), h, n, Y.m⟩ fun ex st => match ex with
   | .normal => adq D Y.body st fun ex st => match ex with
    | .normal => K st.h st.n
    | _ => none
   | _ => none
 else none
def an2 : Nat → List AVal → List (Nat × AVal)
 | _, [] => []
 | i, a :: r => (i, a) :: an2 (i + 1) r
def bj7 (D : Ctx) (fn : Func) (sig : List Sh) (args : List AVal) (K : AVal → Option R) : Option R :=
 match fn.body with
 | none => none
 | some c => bif Nat.ble args.length fn.ntmps then
     adq D c ⟨an2 0 args, [], 0, fn.ntmps⟩ fun ex st => match ex with
      | .exit _ => none
      | .normal => bmn D sig fn st K
      | .ret => bmn D sig fn st K
  else none
def aiz (D : Ctx) (fn : Func) : ave := fun args h n K =>
 match fn.body with
 | none => none
 | some c => bif Nat.ble args.length fn.ntmps then
     adq D c ⟨an2 0 args, h, n, fn.ntmps⟩ fun ex st => match ex with
      | .exit _ => none
      | .normal => outIn D fn st K
      | .ret => outIn D fn st K
  else none
 where outIn (D : Ctx) (fn : Func) (st : ASt) (K : AVal → Hp → Nat → Option R) : Option R :=
 match bjv D st fn.results.toList with
 | none => none
 | some l => K (oneOf l) st.h st.n
end Go.Abs
