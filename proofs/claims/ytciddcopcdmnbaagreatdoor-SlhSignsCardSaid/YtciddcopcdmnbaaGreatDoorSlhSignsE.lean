/-
  SlhSigns, part 5: lemmas for the law.
-/

import Derived.Test.YtciddcopcdmnbaaGreatDoorSlhSignsD
open Nat renaming beq → Aa, blt → Ab
set_option linter.unusedVariables false
set_option linter.unusedSimpArgs false

namespace Go.Abs
open Go Go.RowKit
def bgw(ops:Array Oper)(j:Nat):Option Nat:=(ops[j]?).bind (·.dst)
def btw(ops:Array Oper)(o:Oper)(st:ASt)(F:ASt→Option R)(S:ASt→Option R):Option R :=
 match o.guard with
 | none=>F st
 | some (j,want)=>match bgw ops j with
  | none=>none
  | some t=>match look st.f t with
   | .v (.bool b)=>br b (bif want then F (st.put (some t) (.v (.bool true))) else S (st.put (some t) (.v (.bool true)))) (bif want then S (st.put (some t) (.v (.bool false))) else F (st.put (some t) (.v (.bool false))))
   | .v (.tuple _)=>S st
   | _=>none
def bfj:List (Nat×biz)→Nat→Option biz
 | [],_=>none
 | (k,s)::r,t=>bif Aa k t then some s else bfj r t
def cdx(f:List (Nat×AVal)):Op→Option (Nat×List AVal)
 | .call { callee:=.value x,args,.. }=>match ev f x with
  | .fn (.func g) first caps=>some (g,tq first (tq (evs f args.toList) caps))
  | _=>none
 | _=>none
def bz5(D:Ctx)(f:List (Nat×AVal))(op:Op):Option (biz×List AVal) :=
 match cdx f op with
 | some (g,as)=>match bfj D.inl g with
  | some s=>some (s,as)
  | none=>none
 | none=>none
def b3s(f:List (Nat×AVal)):Op→Option (List Nat×List AVal×List AVal)
 | .call { callee:=.value x,args,.. }=>match ev f x with
  | .yld _ ts vs=>some (ts,vs,evs f args.toList)
  | _=>none
 | _=>none
def doA(D:Ctx)(o:Oper)(st:ASt)(K:ASt→Option R):Option R :=
 match b3s st.f o.op with
 | some (ts,vs,as)=>match D.ys with
  | some s=>s ts vs as st.h st.n fun h n=>K { f:=b3o st.m o.dst (.v (.bool true)) st.f,h:=h,n:=n,m:=st.m }
  | none=>none
 | none=>match bz5 D st.f o.op with
 | some (s,as)=>s as st.h st.n fun v h n=>K { f:=b3o st.m o.dst v st.f,h:=h,n:=n,m:=st.m }
 | none=>opA D o st fun e=>K (st.app e o.dst)
def b5e(D:Ctx)(ops:Array Oper):List Oper→ASt→(ASt→Option R)→Option R
 | [],st,K=>K st
 | o::rest,st,K=>btw ops o st (fun st=>doA D o st fun st=>b5e D ops rest st K) (fun st=>b5e D ops rest (st.put o.dst (.v undef)) K)
structure Info where
 looks:List Nat
 dst:Option Nat
 vs:List AVal
 puts:Hp
 cl:List Nat
def tmpsOf:List Operand→List Nat
 | []=>[]
 | .tmp t::r=>t::tmpsOf r
 | _::r=>tmpsOf r
def nth{α:Type}:List α→Nat→Option α
 | [],_=>none
 | a::_,0=>some a
 | _::r,n+1=>nth r n
def lun:List Nat→List Nat→List Nat
 | [],l=>l
 | a::r,l=>bif bdt a l then lun r l else a::lun r l
def bzm(acc:List Info)(i:Nat):List Edge→Option (List Nat)
 | []=>some []
 | e::r=>bif Region.binds .any e then
     bif Ab e.on i then
      match nth acc (i-1-e.on),bzm acc i r with
      | some x,some l=>some (lun (e.on::x.cl) l)
      | _,_=>none
     else none
  else bzm acc i r
def bl4(d:Option Nat)(l:List Nat):Bool :=
 match d with
 | none=>false
 | some d=>bdt d l
def bgo(d d':Option Nat):Bool :=
 match d,d' with
 | some d,some d'=>Aa d d'
 | _,_=>false
def axe:Hp→List AVal→Hp→Bool
 | [],_,_=>false
 | (id,_)::r,vs,h=>sj id vs||(assoc h id).isSome||axe r vs h
def bfb(x y:Info):Bool :=
 !(bl4 x.dst y.looks||bl4 y.dst x.looks||bgo x.dst y.dst||axe x.puts y.vs y.puts||axe y.puts x.vs x.puts)
def bnu:List Info→Nat→Info→Bool
 | [],_,_=>true
 | x::r,n,y=>(bdt (n-1) y.cl||bfb x y)&&bnu r (n-1) y
def bsb(ops:Array Oper)(o:Oper):List Nat :=
 match o.guard with
 | some (j,_)=>(bgw ops j).toList
 | none=>[]
def b1n(ops:Array Oper)(o:Oper)(vs:List AVal)(puts:Hp)(cl:List Nat):Info:=⟨tq (bsb ops o) (tmpsOf (arv o.op)),o.dst,vs,puts,cl⟩
def bmb(ops:Array Oper)(o:Oper)(cl:List Nat):Info:=⟨bsb ops o,o.dst,[],[],cl⟩
def br7(acc:List Info)(i:Nat)(I:Info)(F:List Info→Option R):Option R:=bif bnu acc i I then F (I::acc) else none
def bl1(op:Op)(vs:List AVal):List AVal :=
 match op with
 | .move _ | .assign _ | .pick _ _ _ | .nilCheck _ | .makeFunc _ _ _ | .makeInterface _ _ | .fieldAddr _ _ _ | .box _ _=>[]
 | _=>vs
def opD(D:Ctx)(o:Oper)(st:ASt)(K:Eff→Option R):Option R :=
 core D o.op (evs st.f (arv o.op)) (mask (bl1 o.op (evs st.f (arv o.op))) st.h) st.n K
def blf(D:Ctx)(ops:Array Oper):List Oper→Nat→List Info→ASt→(List Info→ASt→Option R)→Option R
 | [],_,acc,st,K=>K acc st
 | o::rest,i,acc,st,K =>
  match bzm acc i o.after.toList with
  | none=>none
  | some cl =>
   btw ops o st
    (fun st=>opD D o st fun e=>br7 acc i (b1n ops o (bl1 o.op (evs st.f (arv o.op))) e.puts cl) fun acc=>blf D ops rest (i+1) acc (st.app e o.dst) K)
    (fun st=>br7 acc i (bmb ops o cl) fun acc=>blf D ops rest (i+1) acc (st.put o.dst (.v undef)) K)
def bnz{α:Type}:List α→Option (List α×α)
 | []=>none
 | a::r=>match bnz r with
  | some (x,y)=>some (a::x,y)
  | none=>some ([],a)
def allIn:Nat→List Nat→Bool
 | 0,_=>true
 | n+1,l=>bdt n l&&allIn n l
def b4r(D:Ctx)(ops:Array Oper)(st:ASt)(K:ASt→Option R):Option R :=
 match bnz ops.toList with
 | some (l0,o)=>bif (bz5 D [] o.op).isSome&&o.guard.isNone then
     blf D ops l0 0 [] st fun acc st=>match bzm acc l0.length o.after.toList with
      | some cl=>bif allIn l0.length cl then doA D o st K else none
      | none=>none
  else blf D ops ops.toList 0 [] st fun _=>K
 | none=>blf D ops ops.toList 0 [] st fun _=>K
def l5:Code→Nat
 | .region id _ _=>id
 | .seq a _=>l5 a
 | .block _ b=>l5 b
 | .loop b=>l5 b
 | .scope b=>l5 b
 | _=>0
def hintOf:List (Nat×Hint)→Nat→Hint
 | [],_=>⟨[],[],[],[],none,[],[],[]⟩
 | (k,h)::r,t=>bif Aa k t then h else hintOf r t
def b8g(n:Nat):Bk→Bool
 | .row _ _=>true
 | .box _ l=>ax3 n l
def bxn(f:List (Nat×AVal))(n:Nat):List Nat→Option (List (Nat×AVal))
 | []=>some []
 | t::r=>bif bnd n (look f t) then
     match bxn f n r with
     | some l=>some ((t,look f t)::l)
     | none=>none
  else none
def keepR(g:Nat→AVal)(h:Hp):Nat→List (Nat×TypeId×Cont)→Option (List (Nat×AVal)×Hp×List Nat)
 | _,[]=>some ([],[],[])
 | n,(t,e,c0)::r=>match keepR g h (n+1) r with
  | none=>none
  | some (fs,hs,us)=>match g t with
   | .own id=>match iw h id with
    | some ⟨.row e' c,false⟩=>bif Aa e e' && !bdt id us then some ((t,.own n)::fs,(n,some ⟨.row e c,false⟩)::hs,id::us) else none
    | _=>none
   | .win id 0 len=>match iw h id with
    | some ⟨.row e' c,false⟩=>bif Aa e e' && !bdt id us then some ((t,.own n)::fs,(n,some ⟨.row e (c.take len),false⟩)::hs,id::us) else none
    | _=>none
   | .v (.slice none 0 0)=>bif Aa c0.len 0 then some ((t,.own n)::fs,(n,some ⟨.row e c0,false⟩)::hs,us) else none
   | _=>none
def bos(h:Hp)(n:Nat)(us:List Nat):List Nat→Option Hp
 | []=>some []
 | id::r=>match bos h n us r with
  | none=>none
  | some l=>bif bdt id us then some ((id,none)::l) else
   match iw h id with
   | none=>some ((id,none)::l)
   | some b=>bif b8g n b.b&&Ab id n then some ((id,some b)::l) else none
def b26:Hp→List Nat→List Nat
 | [],acc=>acc
 | (id,_)::r,acc=>bif bdt id acc then b26 r acc else b26 r (id::acc)
def bkg(hl:Nat→Option Blk)(f:List (Nat×AVal)):List (Nat×Sh)→List (Nat×AVal)
 | []=>[]
 | (t,s)::r=>(t,arx s (aap hl (look f t)))::bkg hl f r
def bkk(f:List (Nat×AVal)):List (Nat×Sh)→List Nat
 | []=>[]
 | (t,_)::r=>tq (xg (look f t)) (bkk f r)
def axy(l:List (Nat×Sh))(st:ASt):ASt :=
 match l with
 | []=>st
 | l=>{ st with f:=tq (bkg (iw st.h) st.f l) st.f,h:=tq (freeze (iw st.h) (bkk st.f l) []) st.h }
def bu2:AVal→Bool
 | .own _ | .win _ _ _=>true
 | _=>false
def bv4(hl:Nat→Option Blk)(a:AVal):AVal:=bif bu2 a then aap hl a else a
def bk0(hl:Nat→Option Blk):List AVal→List AVal
 | []=>[]
 | a::r=>bv4 hl a::bk0 hl r
def bbw:List AVal→List Nat
 | []=>[]
 | a::r=>bif bu2 a then tq (xg a) (bbw r) else bbw r
def ax9(h:Hp):List Nat→List Nat
 | []=>[]
 | id::r=>match iw h id with
  | some ⟨.box _ l,_⟩=>tq (bbw l) (ax9 h r)
  | _=>ax9 h r
def ata(hl:Nat→Option Blk)(h:Hp):List Nat→Hp
 | []=>[]
 | id::r=>match iw h id with
  | some ⟨.box e l,f⟩=>(id,some ⟨.box e (bk0 hl l),f⟩)::ata hl h r
  | _=>ata hl h r
def ac2(ids:List Nat)(st:ASt):ASt :=
 match ids with
 | []=>st
 | ids=>{ st with h:=tq (ata (iw st.h) (tq (freeze (iw st.h) (ax9 st.h ids) []) st.h) ids) (tq (freeze (iw st.h) (ax9 st.h ids) []) st.h) }
def bpy:List AVal→List Nat
 | []=>[]
 | .ptr j 0::r=>j::bpy r
 | _::r=>bpy r
def b5g(f:List (Nat×AVal)):List Oper→List (Nat×AVal)
 | []=>f
 | o::r=>match o.dst,o.op with
  | some d,.move x=>b5g ((d,ev f x)::f) r
  | _,_=>b5g f r
def ayn(D:Ctx)(f:List (Nat×AVal)):List Oper→List Nat
 | []=>[]
 | o::r=>match o.op with
  | .makeFunc _ first captured=>lun (tq (bpy (evs f first.toList)) (bpy (evs f captured.toList))) (ayn D f r)
  | .call _=>match cdx f o.op with
   | some (g,as)=>match bfj D.inl g with
    | some _=>ayn D f r
    | none=>lun (bpy as) (ayn D f r)
   | none=>ayn D f r
  | _=>ayn D f r
def cl1(id:Nat)(l:List AVal):AVal→AVal
 | .ptr j 0=>bif Aa id j then .sta l else .ptr j 0
 | a=>a
def b74(id:Nat)(l:List AVal):List (Nat×AVal)→List (Nat×AVal)
 | []=>[]
 | (t,a)::r=>(t,cl1 id l a)::b74 id l r
def bb7(id:Nat)(st:ASt):ASt :=
 match iw st.h id with
 | some ⟨.box _ l,_⟩=>bif ax3 0 l then { st with f:=b74 id l st.f,h:=tq (freeze (iw st.h) [id] []) st.h } else st
 | _=>st
def bhv:List Nat→ASt→ASt
 | [],st=>st
 | id::r,st=>bhv r (bb7 id st)
def b4e(D:Ctx)(ops:List Oper)(st:ASt):ASt:=bif D.sta then bhv (ayn D (b5g st.f ops) ops) (ac2 (ayn D (b5g st.f ops) ops) st) else st
def coB(h:Hp):List (Nat×List Sh)→Hp
 | []=>[]
 | (id,s)::r=>match iw h id with
  | some ⟨.box e l,f⟩=>(id,some ⟨.box e (j5 s l),f⟩)::coB h r
  | _=>coB h r
def b06(l:List (Nat×List Sh))(st:ASt):ASt :=
 match l with
 | []=>st
 | l=>{ st with h:=tq (coB st.h l) st.h }
def bxt(id:Nat)(d:List AVal)(st:ASt):ASt :=
 match iw st.h id with
 | some ⟨.box e [.v (.pointer none)],f⟩=>{ st with h:=(id,some ⟨.box e [.osta 0 d],f⟩)::st.h }
 | some ⟨.box _ [.ptr j 0],_⟩=>match iw (ac2 [j] st).h id,iw (ac2 [j] st).h j with
  | some ⟨.box e [.ptr j' 0],f⟩,some ⟨.box _ l,_⟩=>bif Aa j' j&&ax3 0 l && !Nat.beq id j then
      { ac2 [j] st with h:=(id,some ⟨.box e [.osta 1 l],f⟩)::tq (freeze (iw (ac2 [j] st).h) [j] []) (ac2 [j] st).h } else ac2 [j] st
  | _,_=>ac2 [j] st
 | _=>st
def bx4:List (Nat×List AVal)→ASt→ASt
 | [],st=>st
 | (id,d)::r,st=>bx4 r (bxt id d st)
def bcx(h:Hint)(st:ASt):ASt:=bx4 h.osb (b06 h.shc (ac2 h.shb (axy h.sls st)))
def b3t(h:Hint)(st:ASt):List Nat :=
 match h.gc with
 | none=>b26 st.h []
 | some (_,l)=>l
def b0d(h:Hint)(n:Nat):Nat :=
 match h.gc with
 | none=>n
 | some (m,_)=>bif Nat.ble n m then m else n
def byh(h:Hp)(b:Nat):AVal:=match iw h b with
 | some ⟨.box _ [.own j],_⟩=>.own j
 | some ⟨.box _ [.v (.slice none 0 0)],_⟩=>.v (.slice none 0 0)
 | _=>.bot
def bw3(st:ASt)(t:Nat):AVal:=bif Ab t 1000000 then look st.f t else byh st.h (t-1000000)
def b41:List (Nat×TypeId×Cont)→List Nat
 | []=>[]
 | (t,_,_)::r=>bif Ab t 1000000 then b41 r else (t-1000000)::b41 r
def clr(h:Hp):List Nat→Hp
 | []=>[]
 | b::r=>match iw h b with
  | some ⟨.box e [.own _],f⟩=>(b,some ⟨.box e [.bot],f⟩)::clr h r
  | some ⟨.box e [.v (.slice none 0 0)],f⟩=>(b,some ⟨.box e [.bot],f⟩)::clr h r
  | _=>clr h r
def b73(h:Hp)(l:List Nat):Hp:=match l with
 | []=>h
 | l=>tq (clr h l) h
def slotsOf:List (Nat×AVal)→List (Nat×AVal)
 | []=>[]
 | (t,x)::r=>bif Ab t 1000000 then (t,x)::slotsOf r else slotsOf r
def cbs(fs:List (Nat×AVal))(id:Nat)(b:Option Blk):Option Blk:=match b with
 | some ⟨.box e [.bot],f⟩=>match assoc fs (id+1000000) with
  | some x=>some ⟨.box e [x],f⟩
  | none=>b
 | _=>b
def bu8(fs:List (Nat×AVal)):Hp→Hp
 | []=>[]
 | (id,b)::r=>(id,cbs fs id b)::bu8 fs r
def b2h(fs:List (Nat×AVal))(l:List Nat)(h:Hp):Hp:=match l with
 | []=>h
 | _=>bu8 fs h
def norm(h:Hint)(n:Nat)(ids:List Nat)(st:ASt):Option ASt :=
 match keepR (bw3 st) (b73 st.h (b41 h.rows)) n h.rows with
 | none=>none
 | some (fs,hs,us)=>match bxn st.f n h.keep,bos (b73 st.h (b41 h.rows)) n us ids with
  | some f,some hh=>some { f:=tq (slotsOf fs) f,h:=b2h fs (b41 h.rows) (tq hs hh),n:=n+h.rows.length,m:=st.m }
  | _,_=>none
def bjp:List (Nat×p8)→Nat→Option p8
 | [],_=>none
 | (k,s)::r,t=>bif Aa k t then some s else bjp r t
def bz2(f:List (Nat×AVal)):List Nat→List (Nat×AVal)
 | []=>[]
 | t::r=>(t,look f t)::bz2 f r
def by5(h:Hint)(n:Nat)(ids:List Nat)(K:AExit→ASt→Option R)(next:ASt→Option R)(ex:AExit)(st:ASt):Option R :=
 match ex with
 | .normal=>match norm h n ids (bcx h st) with
  | some st=>next st
  | none=>none
 | .exit id=>match norm h n ids (bcx h st) with
  | some st=>K (.exit id) st
  | none=>none
 | .ret=>K .ret { st with f:=bz2 st.f h.boxes }
def iter(h:Hint)(n:Nat)(ids:List Nat)(F:ASt→(AExit→ASt→Option R)→Option R)(K:AExit→ASt→Option R):Nat→ASt→Option R
 | 0,st=>F st (by5 h n ids K fun _=>none)
 | k+1,st=>F st (by5 h n ids K (iter h n ids F K k))
def keysOf:Hp→List Nat
 | []=>[]
 | (id,_)::r=>id::keysOf r
def bex{α:Type}:Nat→List α→List α
 | 0,l=>l
 | _+1,[]=>[]
 | n+1,_::r=>bex n r
def bi9:List (Nat×RngE)→Nat→Option RngE
 | [],_=>none
 | (k,s)::r,t=>bif Aa k t then some s else bi9 r t
def looks(f:List (Nat×AVal)):List Nat→List AVal
 | []=>[]
 | t::r=>look f t::looks f r
def bnp(id:Nat):Hp→Bool
 | []=>true
 | (_,some ⟨.box _ l,_⟩)::r => !sj id l&&bnp id r
 | _::r=>bnp id r
def noY:Option YCtx→Bool
 | none=>true
 | some _=>false
def b4l(D:Ctx)(st:ASt)(g:Operand)(body:Code):Option (RngE×List AVal×List AVal) :=
 match ev st.f g with
 | .fn (.func gid) first caps=>match bi9 D.rng (l5 body) with
  | some e=>bif D.top&&noY D.y&&Aa gid e.g&&Aa st.m e.m then some (e,first,caps) else none
  | none=>none
 | _=>none
def aho(D:Ctx):Code→ASt→(AExit→ASt→Option R)→Option R
 | .skip,st,K=>K .normal st
 | .label _,st,K=>K .normal st
 | .region _ ops false,st,K=>b5e D ops ops.toList (b4e D ops.toList st) fun st=>K .normal st
 | .region _ ops true,st,K=>b4r D ops (b4e D ops.toList st) fun st=>K .normal st
 | .seq a b,st,K=>aho D a st fun ex st'=>match ex with
  | .normal=>aho D b st' K
  | .exit id=>K (.exit id) st'
  | .ret=>K .ret st'
 | .cond c x y,st,K=>match ev st.f c with
  | .v (.bool b)=>br b (aho D x st K) (aho D y st K)
  | _=>none
 | .block id c,st,K=>aho D c st fun ex st'=>match ex with
  | .normal=>K .normal st'
  | .exit j=>bif Aa j id then K .normal st' else K (.exit j) st'
  | .ret=>K .ret st'
 | .loop c,st,K=>match norm (hintOf D.hints (l5 c)) (b0d (hintOf D.hints (l5 c)) st.n) (b3t (hintOf D.hints (l5 c)) (bcx (hintOf D.hints (l5 c)) st)) (bcx (hintOf D.hints (l5 c)) st) with
  | none=>none
  | some st=>match bjp D.loops (l5 c) with
   | some s=>s st K
   | none=>none
 | .exit id,st,K=>K (.exit id) st
 | .ret,st,K=>K .ret st
 | .rangeFunc g _ _ body,st,K=>match b4l D st g body with
  | some (e,first,caps)=>e.s (tq first (.yld st.n e.ts (looks st.f e.ts)::caps)) st.h (st.n+1) fun _ h n=>bif bnp st.n h then K .normal { f:=st.f,h:=h,n:=n,m:=st.m } else none
  | none=>none
 | _,_,_=>none
def gy:Code→List Code
 | .seq a b=>gy a++gy b
 | .cond _ a b=>gy a++gy b
 | .block _ c=>gy c
 | .loop c=>c::gy c
 | _=>[]
def xk:Code→List Code
 | .seq a b=>xk a++xk b
 | .cond _ a b=>xk a++xk b
 | .block _ c=>xk c
 | .loop c=>xk c
 | .rangeFunc g ps a b=>[.rangeFunc g ps a b]
 | _=>[]
def bu5:List Nat→List AVal→List (Nat×AVal)
 | t::ts,a::r=>(t,a)::bu5 ts r
 | _,_=>[]
def bv3(m:Nat):List Nat→Bool
 | []=>true
 | t::r=>Ab t m&&bv3 m r
def itA(D:Ctx)(c:Code)(K:AExit→ASt→Option R)(k:Nat)(st:ASt):Option R :=
 iter (hintOf D.hints (l5 c)) (st.n-(hintOf D.hints (l5 c)).rows.length) (keysOf (bex (hintOf D.hints (l5 c)).rows.length st.h)) (aho D c) K k st
def jl(D:Ctx)(c:Code):Prop:=∀s,bjp D.loops (l5 c)=some s→∀st K r,s st K=some r→∃k,itA D c K k st=some r
mutual
def ax6:AVal→List Nat
 | .win j _ _ | .awin j _ _ _ _=>[j]
 | .agg l | .tuple l=>aiv l
 | .fn _ a b=>tq (ru a) (ru b)
 | .alt _ _ a b _ c d=>tq (tq (ru a) (ru b)) (tq (ru c) (ru d))
 | .iface _ x=>xg x
 | _=>[]
def aiv:List AVal→List Nat
 | []=>[]
 | a::r=>tq (ax6 a) (aiv r)
end
mutual
def bd9(hl:Nat→Option Blk):AVal→AVal
 | .own id=>match hl id with
  | some ⟨.row e c,false⟩=>.fr e c
  | some ⟨.row _ c,true⟩=>.sl c
  | _=>.bot
 | .agg l=>.agg (ay2 hl l)
 | .tuple l=>.tuple (ay2 hl l)
 | a=>aap hl a
def ay2(hl:Nat→Option Blk):List AVal→List AVal
 | []=>[]
 | a::r=>bd9 hl a::ay2 hl r
end
mutual
def azd:AVal→List Nat
 | .own j=>[j]
 | .agg l | .tuple l=>ane l
 | _=>[]
def ane:List AVal→List Nat
 | []=>[]
 | a::r=>tq (azd a) (ane r)
end
def ama:List Nat→Bool
 | []=>true
 | a::r => !bdt a r&&ama r
mutual
def bnb:Sh→AVal→AVal
 | .sl c,a=>bo0 c (.sl c) a
 | .fr e c,a=>bo0 c (.fr e c) a
 | .agg ss,.agg l=>.agg (bp3 ss l)
 | .agg ss,.fn f a c=>.fn f a (j5 ss c)
 | .alt f fa fc g ga gc,a=>bfz f fa fc g ga gc a
 | _,a=>a
def bp3:List Sh→List AVal→List AVal
 | s::ss,a::r=>bnb s a::bp3 ss r
 | _,l=>l
end
mutual
def b3e:Sh→AVal→List Nat
 | .sl _,.own j=>[j]
 | .agg ss,.agg l=>akp ss l
 | _,_=>[]
def akp:List Sh→List AVal→List Nat
 | s::ss,a::r=>tq (b3e s a) (akp ss r)
 | _,_=>[]
end
def cellV(D:Ctx)(st:ASt)(t:Nat)(ty:TypeId):Option AVal :=
 match ahb D.P ty,oo D.P ty with
 | some g,some sz=>match placeOf D (iw st.h) (look st.f t) sz with
  | some mid=>bif g then some (bdu mid) else match mid with
   | [.arr ..]=>none
   | [a]=>some a
   | _=>none
  | none=>none
 | _,_=>none
def byv(D:Ctx)(st:ASt):List ResultVar→Option (List AVal)
 | []=>some []
 | .tmp t::r=>match byv D st r with
  | some l=>some (look st.f t::l)
  | none=>none
 | .cell t ty::r=>match cellV D st t ty,byv D st r with
  | some a,some l=>some (a::l)
  | _,_=>none
def oneOf:List AVal→AVal
 | [a]=>a
 | l=>.tuple l
def b1k(D:Ctx)(sig:List Sh)(fn:Func)(st:ASt)(K:AVal→Option R):Option R :=
 match byv D st fn.results.toList with
 | none=>none
 | some l =>
  bif ama (ane l) then K (oneOf (bp3 sig (ay2 (iw (tq (freeze (iw st.h) (tq (aiv l) (akp sig l)) []) st.h)) l))) else none
def amg(D:Ctx)(Y:YCtx):b4d:=fun ts vs args h n K =>
 bif Aa args.length Y.ps.size&&ama Y.ps.toList&&bv3 Y.m Y.ps.toList then
  aho D Y.assign ⟨tq (bu5 Y.ps.toList args) (bu5 ts vs),h,n,Y.m⟩ fun ex st=>match ex with
   | .normal=>aho D Y.body st fun ex st=>match ex with
    | .normal=>K st.h st.n
    | _=>none
   | _=>none
 else none
def aws:Nat→List AVal→List (Nat×AVal)
 | _,[]=>[]
 | i,a::r=>(i,a)::aws (i+1) r
def bqe(D:Ctx)(fn:Func)(sig:List Sh)(args:List AVal)(K:AVal→Option R):Option R :=
 match fn.body with
 | none=>none
 | some c=>bif Nat.ble args.length fn.ntmps then
     aho D c ⟨aws 0 args,[],0,fn.ntmps⟩ fun ex st=>match ex with
      | .exit _=>none
      | .normal=>b1k D sig fn st K
      | .ret=>b1k D sig fn st K
  else none
def afj(D:Ctx)(fn:Func):biz:=fun args h n K =>
 match fn.body with
 | none=>none
 | some c=>bif Nat.ble args.length fn.ntmps then
     aho D c ⟨aws 0 args,h,n,fn.ntmps⟩ fun ex st=>match ex with
      | .exit _=>none
      | .normal=>outIn D fn st K
      | .ret=>outIn D fn st K
  else none
 where outIn (D:Ctx) (fn:Func) (st:ASt) (K:AVal→Hp→Nat→Option R):Option R :=
 match byv D st fn.results.toList with
 | none=>none
 | some l=>K (oneOf l) st.h st.n
end Go.Abs
