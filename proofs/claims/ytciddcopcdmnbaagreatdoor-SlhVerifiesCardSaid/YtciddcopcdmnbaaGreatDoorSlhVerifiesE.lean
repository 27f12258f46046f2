/-
  SlhVerifies, part 5: an interpreter of my own over abstract values, the pure functions, the walks and the plain law.
-/

import Derived.Test.YtciddcopcdmnbaaGreatDoorSlhVerifiesD
open Nat renaming beq → Aa, blt → Ab

namespace Go.Abs
open Go Go.RowKit
set_option linter.unusedVariables false
set_option linter.unusedSimpArgs false
def bcg(ops:Array Oper)(j:Nat):Option Nat:=(ops[j]?).bind (·.dst)
def bod(ops:Array Oper)(o:Oper)(st:ASt)(F:ASt→Option R)(S:ASt→Option R):Option R :=
 match o.guard with
 | none=>F st
 | some (j,want)=>match bcg ops j with
  | none=>none
  | some t=>match look st.f t with
   | .v (.bool b)=>br b (bif want then F (st.put (some t) (.v (.bool true))) else S (st.put (some t) (.v (.bool true)))) (bif want then S (st.put (some t) (.v (.bool false))) else F (st.put (some t) (.v (.bool false))))
   | .v (.tuple _)=>S st
   | _=>none
def bdf:List (Nat×bdp)→Nat→Option bdp
 | [],_=>none
 | (k,s)::r,t=>bif Aa k t then some s else bdf r t
def b66(f:List (Nat×AVal)):Op→Option (Nat×List AVal)
 | .call { callee:=.value x,args,.. }=>match ev f x with
  | .fn (.func g) first caps=>some (g,qg first (qg (evs f args.toList) caps))
  | _=>none
 | _=>none
def bue(D:Ctx)(f:List (Nat×AVal))(op:Op):Option (bdp×List AVal) :=
 match b66 f op with
 | some (g,as)=>match bdf D.inl g with
  | some s=>some (s,as)
  | none=>none
 | none=>none
def byk(f:List (Nat×AVal)):Op→Option (List Nat×List AVal×List AVal)
 | .call { callee:=.value x,args,.. }=>match ev f x with
  | .yld _ ts vs=>some (ts,vs,evs f args.toList)
  | _=>none
 | _=>none
def doA(D:Ctx)(o:Oper)(st:ASt)(K:ASt→Option R):Option R :=
 match byk st.f o.op with
 | some (ts,vs,as)=>match D.ys with
  | some s=>s ts vs as st.h st.n fun h n=>K { f:=by6 st.m o.dst (.v (.bool true)) st.f,h:=h,n:=n,m:=st.m }
  | none=>none
 | none=>match bue D st.f o.op with
 | some (s,as)=>s as st.h st.n fun v h n=>K { f:=by6 st.m o.dst v st.f,h:=h,n:=n,m:=st.m }
 | none=>opA D o st fun e=>K (st.app e o.dst)
def bz6(D:Ctx)(ops:Array Oper):List Oper→ASt→(ASt→Option R)→Option R
 | [],st,K=>K st
 | o::rest,st,K=>bod ops o st (fun st=>doA D o st fun st=>bz6 D ops rest st K) (fun st=>bz6 D ops rest (st.put o.dst (.v undef)) K)
structure Info where
 looks:List Nat
 dst:Option Nat
 vs:List AVal
 puts:Hp
 cl:List Nat
def tmpsOf:List Operand→List Nat
 | []=>[]
 | .tmp t::r=>t::tmpsOf r
 | _::r=>tmpsOf r
def nth{α:Type}:List α→Nat→Option α
 | [],_=>none
 | a::_,0=>some a
 | _::r,n+1=>nth r n
def lun:List Nat→List Nat→List Nat
 | [],l=>l
 | a::r,l=>bif azs a l then lun r l else a::lun r l
def bvy(acc:List Info)(i:Nat):List Edge→Option (List Nat)
 | []=>some []
 | e::r=>bif Region.binds .any e then
     bif Ab e.on i then
      match nth acc (i-1-e.on),bvy acc i r with
      | some x,some l=>some (lun (e.on::x.cl) l)
      | _,_=>none
     else none
  else bvy acc i r
def bhr(d:Option Nat)(l:List Nat):Bool :=
 match d with
 | none=>false
 | some d=>azs d l
def bbs(d d':Option Nat):Bool :=
 match d,d' with
 | some d,some d'=>Aa d d'
 | _,_=>false
def at6:Hp→List AVal→Hp→Bool
 | [],_,_=>false
 | (id,_)::r,vs,h=>p9 id vs||(assoc h id).isSome||at6 r vs h
def ba0(x y:Info):Bool :=
 !(bhr x.dst y.looks||bhr y.dst x.looks||bbs x.dst y.dst||at6 x.puts y.vs y.puts||at6 y.puts x.vs x.puts)
def bj0:List Info→Nat→Info→Bool
 | [],_,_=>true
 | x::r,n,y=>(azs (n-1) y.cl||ba0 x y)&&bj0 r (n-1) y
def bnh(ops:Array Oper)(o:Oper):List Nat :=
 match o.guard with
 | some (j,_)=>(bcg ops j).toList
 | none=>[]
def bwm(ops:Array Oper)(o:Oper)(vs:List AVal)(puts:Hp)(cl:List Nat):Info:=⟨qg (bnh ops o) (tmpsOf (apy o.op)),o.dst,vs,puts,cl⟩
def bht(ops:Array Oper)(o:Oper)(cl:List Nat):Info:=⟨bnh ops o,o.dst,[],[],cl⟩
def bn3(acc:List Info)(i:Nat)(I:Info)(F:List Info→Option R):Option R:=bif bj0 acc i I then F (I::acc) else none
def bhp(op:Op)(vs:List AVal):List AVal :=
 match op with
 | .move _ | .assign _ | .pick _ _ _ | .nilCheck _ | .makeFunc _ _ _ | .makeInterface _ _ | .fieldAddr _ _ _ | .box _ _=>[]
 | _=>vs
def opD(D:Ctx)(o:Oper)(st:ASt)(K:Eff→Option R):Option R :=
 core D o.op (evs st.f (apy o.op)) (mask (bhp o.op (evs st.f (apy o.op))) st.h) st.n K
def bha(D:Ctx)(ops:Array Oper):List Oper→Nat→List Info→ASt→(List Info→ASt→Option R)→Option R
 | [],_,acc,st,K=>K acc st
 | o::rest,i,acc,st,K =>
  match bvy acc i o.after.toList with
  | none=>none
  | some cl =>
   bod ops o st
    (fun st=>opD D o st fun e=>bn3 acc i (bwm ops o (bhp o.op (evs st.f (apy o.op))) e.puts cl) fun acc=>bha D ops rest (i+1) acc (st.app e o.dst) K)
    (fun st=>bn3 acc i (bht ops o cl) fun acc=>bha D ops rest (i+1) acc (st.put o.dst (.v undef)) K)
def bkg{α:Type}:List α→Option (List α×α)
 | []=>none
 | a::r=>match bkg r with
  | some (x,y)=>some (a::x,y)
  | none=>some ([],a)
def allIn:Nat→List Nat→Bool
 | 0,_=>true
 | n+1,l=>azs n l&&allIn n l
def bzn(D:Ctx)(ops:Array Oper)(st:ASt)(K:ASt→Option R):Option R :=
 match bkg ops.toList with
 | some (l0,o)=>bif (bue D [] o.op).isSome&&o.guard.isNone then
     bha D ops l0 0 [] st fun acc st=>match bvy acc l0.length o.after.toList with
      | some cl=>bif allIn l0.length cl then doA D o st K else none
      | none=>none
  else bha D ops ops.toList 0 [] st fun _=>K
 | none=>bha D ops ops.toList 0 [] st fun _=>K
def j6:Code→Nat
 | .region id _ _=>id
 | .seq a _=>j6 a
 | .block _ b=>j6 b
 | .loop b=>j6 b
 | .scope b=>j6 b
 | _=>0
def hintOf:List (Nat×Hint)→Nat→Hint
 | [],_=>⟨[],[],[],[],none,[],[],[]⟩
 | (k,h)::r,t=>bif Aa k t then h else hintOf r t
def b22(n:Nat):Bk→Bool
 | .row _ _=>true
 | .box _ l=>au9 n l
def bq6(f:List (Nat×AVal))(n:Nat):List Nat→Option (List (Nat×AVal))
 | []=>some []
 | t::r=>bif bnd n (look f t) then
     match bq6 f n r with
     | some l=>some ((t,look f t)::l)
     | none=>none
  else none
def keepR(g:Nat→AVal)(h:Hp):Nat→List (Nat×TypeId×Cont)→Option (List (Nat×AVal)×Hp×List Nat)
 | _,[]=>some ([],[],[])
 | n,(t,e,c0)::r=>match keepR g h (n+1) r with
  | none=>none
  | some (fs,hs,us)=>match g t with
   | .own id=>match iw h id with
    | some ⟨.row e' c,false⟩=>bif Aa e e' && !azs id us then some ((t,.own n)::fs,(n,some ⟨.row e c,false⟩)::hs,id::us) else none
    | _=>none
   | .win id 0 len=>match iw h id with
    | some ⟨.row e' c,false⟩=>bif Aa e e' && !azs id us then some ((t,.own n)::fs,(n,some ⟨.row e (c.take len),false⟩)::hs,id::us) else none
    | _=>none
   | .v (.slice none 0 0)=>bif Aa c0.len 0 then some ((t,.own n)::fs,(n,some ⟨.row e c0,false⟩)::hs,us) else none
   | _=>none
def bkr(h:Hp)(n:Nat)(us:List Nat):List Nat→Option Hp
 | []=>some []
 | id::r=>match bkr h n us r with
  | none=>none
  | some l=>bif azs id us then some ((id,none)::l) else
   match iw h id with
   | none=>some ((id,none)::l)
   | some b=>bif b22 n b.b&&Ab id n then some ((id,some b)::l) else none
def bx2:Hp→List Nat→List Nat
 | [],acc=>acc
 | (id,_)::r,acc=>bif azs id acc then bx2 r acc else bx2 r (id::acc)
def bfq(hl:Nat→Option Blk)(f:List (Nat×AVal)):List (Nat×Sh)→List (Nat×AVal)
 | []=>[]
 | (t,s)::r=>(t,apz s (aah hl (look f t)))::bfq hl f r
def ber(f:List (Nat×AVal)):List (Nat×Sh)→List Nat
 | []=>[]
 | (t,_)::r=>qg (vk (look f t)) (ber f r)
def aty(l:List (Nat×Sh))(st:ASt):ASt :=
 match l with
 | []=>st
 | l=>{ st with f:=qg (bfq (iw st.h) st.f l) st.f,h:=qg (freeze (iw st.h) (ber st.f l) []) st.h }
def bpj:AVal→Bool
 | .own _ | .win _ _ _=>true
 | _=>false
def bsx(hl:Nat→Option Blk)(a:AVal):AVal:=bif bpj a then aah hl a else a
def bf9(hl:Nat→Option Blk):List AVal→List AVal
 | []=>[]
 | a::r=>bsx hl a::bf9 hl r
def ay9:List AVal→List Nat
 | []=>[]
 | a::r=>bif bpj a then qg (vk a) (ay9 r) else ay9 r
def aw4(h:Hp):List Nat→List Nat
 | []=>[]
 | id::r=>match iw h id with
  | some ⟨.box _ l,_⟩=>qg (ay9 l) (aw4 h r)
  | _=>aw4 h r
def aru(hl:Nat→Option Blk)(h:Hp):List Nat→Hp
 | []=>[]
 | id::r=>match iw h id with
  | some ⟨.box e l,f⟩=>(id,some ⟨.box e (bf9 hl l),f⟩)::aru hl h r
  | _=>aru hl h r
def acd(ids:List Nat)(st:ASt):ASt :=
 match ids with
 | []=>st
 | ids=>{ st with h:=qg (aru (iw st.h) (qg (freeze (iw st.h) (aw4 st.h ids) []) st.h) ids) (qg (freeze (iw st.h) (aw4 st.h ids) []) st.h) }
def bk9:List AVal→List Nat
 | []=>[]
 | .ptr j 0::r=>j::bk9 r
 | _::r=>bk9 r
def bzu(f:List (Nat×AVal)):List Oper→List (Nat×AVal)
 | []=>f
 | o::r=>match o.dst,o.op with
  | some d,.move x=>bzu ((d,ev f x)::f) r
  | _,_=>bzu f r
def avi(D:Ctx)(f:List (Nat×AVal)):List Oper→List Nat
 | []=>[]
 | o::r=>match o.op with
  | .makeFunc _ first captured=>lun (qg (bk9 (evs f first.toList)) (bk9 (evs f captured.toList))) (avi D f r)
  | .call _=>match b66 f o.op with
   | some (g,as)=>match bdf D.inl g with
    | some _=>avi D f r
    | none=>lun (bk9 as) (avi D f r)
   | none=>avi D f r
  | _=>avi D f r
def cev(id:Nat)(l:List AVal):AVal→AVal
 | .ptr j 0=>bif Aa id j then .sta l else .ptr j 0
 | a=>a
def b4f(id:Nat)(l:List AVal):List (Nat×AVal)→List (Nat×AVal)
 | []=>[]
 | (t,a)::r=>(t,cev id l a)::b4f id l r
def ayt(id:Nat)(st:ASt):ASt :=
 match iw st.h id with
 | some ⟨.box _ l,_⟩=>bif au9 0 l then { st with f:=b4f id l st.f,h:=qg (freeze (iw st.h) [id] []) st.h } else st
 | _=>st
def bcr:List Nat→ASt→ASt
 | [],st=>st
 | id::r,st=>bcr r (ayt id st)
def byq(D:Ctx)(ops:List Oper)(st:ASt):ASt:=bif D.sta then bcr (avi D (bzu st.f ops) ops) (acd (avi D (bzu st.f ops) ops) st) else st
def coB(h:Hp):List (Nat×List Sh)→Hp
 | []=>[]
 | (id,s)::r=>match iw h id with
  | some ⟨.box e l,f⟩=>(id,some ⟨.box e (mh s l),f⟩)::coB h r
  | _=>coB h r
def bu2(l:List (Nat×List Sh))(st:ASt):ASt :=
 match l with
 | []=>st
 | l=>{ st with h:=qg (coB st.h l) st.h }
def bqx(id:Nat)(d:List AVal)(st:ASt):ASt :=
 match iw st.h id with
 | some ⟨.box e [.v (.pointer none)],f⟩=>{ st with h:=(id,some ⟨.box e [.osta 0 d],f⟩)::st.h }
 | some ⟨.box _ [.ptr j 0],_⟩=>match iw (acd [j] st).h id,iw (acd [j] st).h j with
  | some ⟨.box e [.ptr j' 0],f⟩,some ⟨.box _ l,_⟩=>bif Aa j' j&&au9 0 l && !Nat.beq id j then
      { acd [j] st with h:=(id,some ⟨.box e [.osta 1 l],f⟩)::qg (freeze (iw (acd [j] st).h) [j] []) (acd [j] st).h } else acd [j] st
  | _,_=>acd [j] st
 | _=>st
def bs1:List (Nat×List AVal)→ASt→ASt
 | [],st=>st
 | (id,d)::r,st=>bs1 r (bqx id d st)
def ayn(h:Hint)(st:ASt):ASt:=bs1 h.osb (bu2 h.shc (acd h.shb (aty h.sls st)))
def bxh(h:Hint)(st:ASt):List Nat :=
 match h.gc with
 | none=>bx2 st.h []
 | some (_,l)=>l
def buw(h:Hint)(n:Nat):Nat :=
 match h.gc with
 | none=>n
 | some (m,_)=>bif Nat.ble n m then m else n
def btg(h:Hp)(b:Nat):AVal:=match iw h b with
 | some ⟨.box _ [.own j],_⟩=>.own j
 | some ⟨.box _ [.v (.slice none 0 0)],_⟩=>.v (.slice none 0 0)
 | _=>.bot
def bsv(st:ASt)(t:Nat):AVal:=bif Ab t 1000000 then look st.f t else btg st.h (t-1000000)
def bzm:List (Nat×TypeId×Cont)→List Nat
 | []=>[]
 | (t,_,_)::r=>bif Ab t 1000000 then bzm r else (t-1000000)::bzm r
def clr(h:Hp):List Nat→Hp
 | []=>[]
 | b::r=>match iw h b with
  | some ⟨.box e [.own _],f⟩=>(b,some ⟨.box e [.bot],f⟩)::clr h r
  | some ⟨.box e [.v (.slice none 0 0)],f⟩=>(b,some ⟨.box e [.bot],f⟩)::clr h r
  | _=>clr h r
def b1h(h:Hp)(l:List Nat):Hp:=match l with
 | []=>h
 | l=>qg (clr h l) h
def slotsOf:List (Nat×AVal)→List (Nat×AVal)
 | []=>[]
 | (t,x)::r=>bif Ab t 1000000 then (t,x)::slotsOf r else slotsOf r
def b7j(fs:List (Nat×AVal))(id:Nat)(b:Option Blk):Option Blk:=match b with
 | some ⟨.box e [.bot],f⟩=>match assoc fs (id+1000000) with
  | some x=>some ⟨.box e [x],f⟩
  | none=>b
 | _=>b
def bp4(fs:List (Nat×AVal)):Hp→Hp
 | []=>[]
 | (id,b)::r=>(id,b7j fs id b)::bp4 fs r
def bw1(fs:List (Nat×AVal))(l:List Nat)(h:Hp):Hp:=match l with
 | []=>h
 | _=>bp4 fs h
def norm(h:Hint)(n:Nat)(ids:List Nat)(st:ASt):Option ASt :=
 match keepR (bsv st) (b1h st.h (bzm h.rows)) n h.rows with
 | none=>none
 | some (fs,hs,us)=>match bq6 st.f n h.keep,bkr (b1h st.h (bzm h.rows)) n us ids with
  | some f,some hh=>some { f:=qg (slotsOf fs) f,h:=bw1 fs (bzm h.rows) (qg hs hh),n:=n+h.rows.length,m:=st.m }
  | _,_=>none
def bfb:List (Nat×qy)→Nat→Option qy
 | [],_=>none
 | (k,s)::r,t=>bif Aa k t then some s else bfb r t
def bt4(f:List (Nat×AVal)):List Nat→List (Nat×AVal)
 | []=>[]
 | t::r=>(t,look f t)::bt4 f r
def bun(h:Hint)(n:Nat)(ids:List Nat)(K:AExit→ASt→Option R)(next:ASt→Option R)(ex:AExit)(st:ASt):Option R :=
 match ex with
 | .normal=>match norm h n ids (ayn h st) with
  | some st=>next st
  | none=>none
 | .exit id=>match norm h n ids (ayn h st) with
  | some st=>K (.exit id) st
  | none=>none
 | .ret=>K .ret { st with f:=bt4 st.f h.boxes }
def iter(h:Hint)(n:Nat)(ids:List Nat)(F:ASt→(AExit→ASt→Option R)→Option R)(K:AExit→ASt→Option R):Nat→ASt→Option R
 | 0,st=>F st (bun h n ids K fun _=>none)
 | k+1,st=>F st (bun h n ids K (iter h n ids F K k))
def keysOf:Hp→List Nat
 | []=>[]
 | (id,_)::r=>id::keysOf r
def bcb{α:Type}:Nat→List α→List α
 | 0,l=>l
 | _+1,[]=>[]
 | n+1,_::r=>bcb n r
def be6:List (Nat×RngE)→Nat→Option RngE
 | [],_=>none
 | (k,s)::r,t=>bif Aa k t then some s else be6 r t
def looks(f:List (Nat×AVal)):List Nat→List AVal
 | []=>[]
 | t::r=>look f t::looks f r
def bkq(id:Nat):Hp→Bool
 | []=>true
 | (_,some ⟨.box _ l,_⟩)::r => !p9 id l&&bkq id r
 | _::r=>bkq id r
def noY:Option YCtx→Bool
 | none=>true
 | some _=>false
def byc(D:Ctx)(st:ASt)(g:Operand)(body:Code):Option (RngE×List AVal×List AVal) :=
 match ev st.f g with
 | .fn (.func gid) first caps=>match be6 D.rng (j6 body) with
  | some e=>bif D.top&&noY D.y&&Aa gid e.g&&Aa st.m e.m then some (e,first,caps) else none
  | none=>none
 | _=>none
def af8(D:Ctx):Code→ASt→(AExit→ASt→Option R)→Option R
 | .skip,st,K=>K .normal st
 | .label _,st,K=>K .normal st
 | .region _ ops false,st,K=>bz6 D ops ops.toList (byq D ops.toList st) fun st=>K .normal st
 | .region _ ops true,st,K=>bzn D ops (byq D ops.toList st) fun st=>K .normal st
 | .seq a b,st,K=>af8 D a st fun ex st'=>match ex with
  | .normal=>af8 D b st' K
  | .exit id=>K (.exit id) st'
  | .ret=>K .ret st'
 | .cond c x y,st,K=>match ev st.f c with
  | .v (.bool b)=>br b (af8 D x st K) (af8 D y st K)
  | _=>none
 | .block id c,st,K=>af8 D c st fun ex st'=>match ex with
  | .normal=>K .normal st'
  | .exit j=>bif Aa j id then K .normal st' else K (.exit j) st'
  | .ret=>K .ret st'
 | .loop c,st,K=>match norm (hintOf D.hints (j6 c)) (buw (hintOf D.hints (j6 c)) st.n) (bxh (hintOf D.hints (j6 c)) (ayn (hintOf D.hints (j6 c)) st)) (ayn (hintOf D.hints (j6 c)) st) with
  | none=>none
  | some st=>match bfb D.loops (j6 c) with
   | some s=>s st K
   | none=>none
 | .exit id,st,K=>K (.exit id) st
 | .ret,st,K=>K .ret st
 | .rangeFunc g _ _ body,st,K=>match byc D st g body with
  | some (e,first,caps)=>e.s (qg first (.yld st.n e.ts (looks st.f e.ts)::caps)) st.h (st.n+1) fun _ h n=>bif bkq st.n h then K .normal { f:=st.f,h:=h,n:=n,m:=st.m } else none
  | none=>none
 | _,_,_=>none
def dn:Code→List Code
 | .seq a b=>dn a++dn b
 | .cond _ a b=>dn a++dn b
 | .block _ c=>dn c
 | .loop c=>c::dn c
 | _=>[]
def zk:Code→List Code
 | .seq a b=>zk a++zk b
 | .cond _ a b=>zk a++zk b
 | .block _ c=>zk c
 | .loop c=>zk c
 | .rangeFunc g ps a b=>[.rangeFunc g ps a b]
 | _=>[]
def bp7:List Nat→List AVal→List (Nat×AVal)
 | t::ts,a::r=>(t,a)::bp7 ts r
 | _,_=>[]
def bsc(m:Nat):List Nat→Bool
 | []=>true
 | t::r=>Ab t m&&bsc m r
def itA(D:Ctx)(c:Code)(K:AExit→ASt→Option R)(k:Nat)(st:ASt):Option R :=
 iter (hintOf D.hints (j6 c)) (st.n-(hintOf D.hints (j6 c)).rows.length) (keysOf (bcb (hintOf D.hints (j6 c)).rows.length st.h)) (af8 D c) K k st
def jr(D:Ctx)(c:Code):Prop:=∀s,bfb D.loops (j6 c)=some s→∀st K r,s st K=some r→∃k,itA D c K k st=some r
mutual
def av6:AVal→List Nat
 | .win j _ _ | .awin j _ _ _ _=>[j]
 | .agg l | .tuple l=>ahz l
 | .fn _ a b=>qg (p8 a) (p8 b)
 | .alt _ _ a b _ c d=>qg (qg (p8 a) (p8 b)) (qg (p8 c) (p8 d))
 | .iface _ x=>vk x
 | _=>[]
def ahz:List AVal→List Nat
 | []=>[]
 | a::r=>qg (av6 a) (ahz r)
end
mutual
def az2(hl:Nat→Option Blk):AVal→AVal
 | .own id=>match hl id with
  | some ⟨.row e c,false⟩=>.fr e c
  | some ⟨.row _ c,true⟩=>.sl c
  | _=>.bot
 | .agg l=>.agg (av2 hl l)
 | .tuple l=>.tuple (av2 hl l)
 | a=>aah hl a
def av2(hl:Nat→Option Blk):List AVal→List AVal
 | []=>[]
 | a::r=>az2 hl a::av2 hl r
end
mutual
def avl:AVal→List Nat
 | .own j=>[j]
 | .agg l | .tuple l=>amn l
 | _=>[]
def amn:List AVal→List Nat
 | []=>[]
 | a::r=>qg (avl a) (amn r)
end
def akd:List Nat→Bool
 | []=>true
 | a::r => !azs a r&&akd r
mutual
def bh9:Sh→AVal→AVal
 | .sl c,a=>bkd c (.sl c) a
 | .fr e c,a=>bkd c (.fr e c) a
 | .agg ss,.agg l=>.agg (bld ss l)
 | .agg ss,.fn f a c=>.fn f a (mh ss c)
 | .alt f fa fc g ga gc,a=>bbf f fa fc g ga gc a
 | _,a=>a
def bld:List Sh→List AVal→List AVal
 | s::ss,a::r=>bh9 s a::bld ss r
 | _,l=>l
end
mutual
def by1:Sh→AVal→List Nat
 | .sl _,.own j=>[j]
 | .agg ss,.agg l=>ajo ss l
 | _,_=>[]
def ajo:List Sh→List AVal→List Nat
 | s::ss,a::r=>qg (by1 s a) (ajo ss r)
 | _,_=>[]
end
def cellV(D:Ctx)(st:ASt)(t:Nat)(ty:TypeId):Option AVal :=
 match agx D.P ty,ng D.P ty with
 | some g,some sz=>match placeOf D (iw st.h) (look st.f t) sz with
  | some mid=>bif g then some (azj mid) else match mid with
   | [.arr ..]=>none
   | [a]=>some a
   | _=>none
  | none=>none
 | _,_=>none
def btn(D:Ctx)(st:ASt):List ResultVar→Option (List AVal)
 | []=>some []
 | .tmp t::r=>match btn D st r with
  | some l=>some (look st.f t::l)
  | none=>none
 | .cell t ty::r=>match cellV D st t ty,btn D st r with
  | some a,some l=>some (a::l)
  | _,_=>none
def oneOf:List AVal→AVal
 | [a]=>a
 | l=>.tuple l
def bxc(D:Ctx)(sig:List Sh)(fn:Func)(st:ASt)(K:AVal→Option R):Option R :=
 match btn D st fn.results.toList with
 | none=>none
 | some l =>
  bif akd (amn l) then K (oneOf (bld sig (av2 (iw (qg (freeze (iw st.h) (qg (ahz l) (ajo sig l)) []) st.h)) l))) else none
def ayz(D:Ctx)(Y:YCtx):bzb:=fun ts vs args h n K =>
 bif Aa args.length Y.ps.size&&akd Y.ps.toList&&bsc Y.m Y.ps.toList then
  af8 D Y.assign ⟨qg (bp7 Y.ps.toList args) (bp7 ts vs),h,n,Y.m⟩ fun ex st=>match ex with
   | .normal=>af8 D Y.body st fun ex st=>match ex with
    | .normal=>K st.h st.n
    | _=>none
   | _=>none
 else none
def au7:Nat→List AVal→List (Nat×AVal)
 | _,[]=>[]
 | i,a::r=>(i,a)::au7 (i+1) r
def bya(D:Ctx)(fn:Func)(sig:List Sh)(args:List AVal)(K:AVal→Option R):Option R :=
 match fn.body with
 | none=>none
 | some c=>bif Nat.ble args.length fn.ntmps then
     af8 D c ⟨au7 0 args,[],0,fn.ntmps⟩ fun ex st=>match ex with
      | .exit _=>none
      | .normal=>bxc D sig fn st K
      | .ret=>bxc D sig fn st K
  else none
def ajd(D:Ctx)(fn:Func):bdp:=fun args h n K =>
 match fn.body with
 | none=>none
 | some c=>bif Nat.ble args.length fn.ntmps then
     af8 D c ⟨au7 0 args,h,n,fn.ntmps⟩ fun ex st=>match ex with
      | .exit _=>none
      | .normal=>outIn D fn st K
      | .ret=>outIn D fn st K
  else none
 where outIn (D:Ctx) (fn:Func) (st:ASt) (K:AVal→Hp→Nat→Option R):Option R :=
 match btn D st fn.results.toList with
 | none=>none
 | some l=>K (oneOf l) st.h st.n
end Go.Abs
