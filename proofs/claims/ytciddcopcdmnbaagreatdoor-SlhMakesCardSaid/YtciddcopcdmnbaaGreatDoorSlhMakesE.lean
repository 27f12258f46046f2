/-
  SlhMakes, part 5: an interpreter of my own over abstract values, the pure functions, the walks and the plain law.
-/

import Derived.Test.YtciddcopcdmnbaaGreatDoorSlhMakesD
open Nat renaming beq → Aa, blt → Ab

namespace Go.Abs
open Go Go.RowKit
set_option linter.unusedVariables false
set_option linter.unusedSimpArgs false
def az8(ops:Array Oper)(j:Nat):Option Nat:=(ops[j]?).bind (·.dst)
def bk9(ops:Array Oper)(o:Oper)(st:ASt)(F:ASt→Option R)(S:ASt→Option R):Option R :=
 match o.guard with
 | none=>F st
 | some (j,want)=>match az8 ops j with
  | none=>none
  | some t=>match look st.f t with
   | .v (.bool b)=>br b (bif want then F (st.put (some t) (.v (.bool true))) else S (st.put (some t) (.v (.bool true)))) (bif want then S (st.put (some t) (.v (.bool false))) else F (st.put (some t) (.v (.bool false))))
   | .v (.tuple _)=>S st
   | _=>none
def az2:List (Nat×bbt)→Nat→Option bbt
 | [],_=>none
 | (k,s)::r,t=>bif Aa k t then some s else az2 r t
def b4f(f:List (Nat×AVal)):Op→Option (Nat×List AVal)
 | .call { callee:=.value x,args,.. }=>match ev f x with
  | .fn (.func g) first caps=>some (g,qd first (qd (evs f args.toList) caps))
  | _=>none
 | _=>none
def bs4(D:Ctx)(f:List (Nat×AVal))(op:Op):Option (bbt×List AVal) :=
 match b4f f op with
 | some (g,as)=>match az2 D.inl g with
  | some s=>some (s,as)
  | none=>none
 | none=>none
def buu(f:List (Nat×AVal)):Op→Option (List Nat×List AVal×List AVal)
 | .call { callee:=.value x,args,.. }=>match ev f x with
  | .yld _ ts vs=>some (ts,vs,evs f args.toList)
  | _=>none
 | _=>none
def doA(D:Ctx)(o:Oper)(st:ASt)(K:ASt→Option R):Option R :=
 match buu st.f o.op with
 | some (ts,vs,as)=>match D.ys with
  | some s=>s ts vs as st.h st.n fun h n=>K { f:=bun st.m o.dst (.v (.bool true)) st.f,h:=h,n:=n,m:=st.m }
  | none=>none
 | none=>match bs4 D st.f o.op with
 | some (s,as)=>s as st.h st.n fun v h n=>K { f:=bun st.m o.dst v st.f,h:=h,n:=n,m:=st.m }
 | none=>opA D o st fun e=>K (st.app e o.dst)
def bw1(D:Ctx)(ops:Array Oper):List Oper→ASt→(ASt→Option R)→Option R
 | [],st,K=>K st
 | o::rest,st,K=>bk9 ops o st (fun st=>doA D o st fun st=>bw1 D ops rest st K) (fun st=>bw1 D ops rest (st.put o.dst (.v undef)) K)
structure Info where
 looks:List Nat
 dst:Option Nat
 vs:List AVal
 puts:Hp
 cl:List Nat
def tmpsOf:List Operand→List Nat
 | []=>[]
 | .tmp t::r=>t::tmpsOf r
 | _::r=>tmpsOf r
def nth{α:Type}:List α→Nat→Option α
 | [],_=>none
 | a::_,0=>some a
 | _::r,n+1=>nth r n
def lun:List Nat→List Nat→List Nat
 | [],l=>l
 | a::r,l=>bif ax1 a l then lun r l else a::lun r l
def bsh(acc:List Info)(i:Nat):List Edge→Option (List Nat)
 | []=>some []
 | e::r=>bif Region.binds .any e then
     bif Ab e.on i then
      match nth acc (i-1-e.on),bsh acc i r with
      | some x,some l=>some (lun (e.on::x.cl) l)
      | _,_=>none
     else none
  else bsh acc i r
def bft(d:Option Nat)(l:List Nat):Bool :=
 match d with
 | none=>false
 | some d=>ax1 d l
def ayh(d d':Option Nat):Bool :=
 match d,d' with
 | some d,some d'=>Aa d d'
 | _,_=>false
def ar0:Hp→List AVal→Hp→Bool
 | [],_,_=>false
 | (id,_)::r,vs,h=>pq id vs||(assoc h id).isSome||ar0 r vs h
def ayx(x y:Info):Bool :=
 !(bft x.dst y.looks||bft y.dst x.looks||ayh x.dst y.dst||ar0 x.puts y.vs y.puts||ar0 y.puts x.vs x.puts)
def biy:List Info→Nat→Info→Bool
 | [],_,_=>true
 | x::r,n,y=>(ax1 (n-1) y.cl||ayx x y)&&biy r (n-1) y
def bl8(ops:Array Oper)(o:Oper):List Nat :=
 match o.guard with
 | some (j,_)=>(az8 ops j).toList
 | none=>[]
def btm(ops:Array Oper)(o:Oper)(vs:List AVal)(puts:Hp)(cl:List Nat):Info:=⟨qd (bl8 ops o) (tmpsOf (aof o.op)),o.dst,vs,puts,cl⟩
def bfs(ops:Array Oper)(o:Oper)(cl:List Nat):Info:=⟨bl8 ops o,o.dst,[],[],cl⟩
def bme(acc:List Info)(i:Nat)(I:Info)(F:List Info→Option R):Option R:=bif biy acc i I then F (I::acc) else none
def bes(op:Op)(vs:List AVal):List AVal :=
 match op with
 | .move _ | .assign _ | .pick _ _ _ | .nilCheck _ | .makeFunc _ _ _ | .makeInterface _ _ | .fieldAddr _ _ _ | .box _ _=>[]
 | _=>vs
def opD(D:Ctx)(o:Oper)(st:ASt)(K:Eff→Option R):Option R :=
 core D o.op (evs st.f (aof o.op)) (mask (bes o.op (evs st.f (aof o.op))) st.h) st.n K
def bfn(D:Ctx)(ops:Array Oper):List Oper→Nat→List Info→ASt→(List Info→ASt→Option R)→Option R
 | [],_,acc,st,K=>K acc st
 | o::rest,i,acc,st,K =>
  match bsh acc i o.after.toList with
  | none=>none
  | some cl =>
   bk9 ops o st
    (fun st=>opD D o st fun e=>bme acc i (btm ops o (bes o.op (evs st.f (aof o.op))) e.puts cl) fun acc=>bfn D ops rest (i+1) acc (st.app e o.dst) K)
    (fun st=>bme acc i (bfs ops o cl) fun acc=>bfn D ops rest (i+1) acc (st.put o.dst (.v undef)) K)
def bhs{α:Type}:List α→Option (List α×α)
 | []=>none
 | a::r=>match bhs r with
  | some (x,y)=>some (a::x,y)
  | none=>some ([],a)
def allIn:Nat→List Nat→Bool
 | 0,_=>true
 | n+1,l=>ax1 n l&&allIn n l
def bu6(D:Ctx)(ops:Array Oper)(st:ASt)(K:ASt→Option R):Option R :=
 match bhs ops.toList with
 | some (l0,o)=>bif (bs4 D [] o.op).isSome&&o.guard.isNone then
     bfn D ops l0 0 [] st fun acc st=>match bsh acc l0.length o.after.toList with
      | some cl=>bif allIn l0.length cl then doA D o st K else none
      | none=>none
  else bfn D ops ops.toList 0 [] st fun _=>K
 | none=>bfn D ops ops.toList 0 [] st fun _=>K
def jy:Code→Nat
 | .region id _ _=>id
 | .seq a _=>jy a
 | .block _ b=>jy b
 | .loop b=>jy b
 | .scope b=>jy b
 | _=>0
def hintOf:List (Nat×Hint)→Nat→Hint
 | [],_=>⟨[],[],[],[],none,[],[],[]⟩
 | (k,h)::r,t=>bif Aa k t then h else hintOf r t
def bzx(n:Nat):Bk→Bool
 | .row _ _=>true
 | .box _ l=>ate n l
def boa(f:List (Nat×AVal))(n:Nat):List Nat→Option (List (Nat×AVal))
 | []=>some []
 | t::r=>bif bnd n (look f t) then
     match boa f n r with
     | some l=>some ((t,look f t)::l)
     | none=>none
  else none
def keepR(g:Nat→AVal)(h:Hp):Nat→List (Nat×TypeId×Cont)→Option (List (Nat×AVal)×Hp×List Nat)
 | _,[]=>some ([],[],[])
 | n,(t,e,c0)::r=>match keepR g h (n+1) r with
  | none=>none
  | some (fs,hs,us)=>match g t with
   | .own id=>match ig h id with
    | some ⟨.row e' c,false⟩=>bif Aa e e' && !ax1 id us then some ((t,.own n)::fs,(n,some ⟨.row e c,false⟩)::hs,id::us) else none
    | _=>none
   | .win id 0 len=>match ig h id with
    | some ⟨.row e' c,false⟩=>bif Aa e e' && !ax1 id us then some ((t,.own n)::fs,(n,some ⟨.row e (c.take len),false⟩)::hs,id::us) else none
    | _=>none
   | .v (.slice none 0 0)=>bif Aa c0.len 0 then some ((t,.own n)::fs,(n,some ⟨.row e c0,false⟩)::hs,us) else none
   | _=>none
def bh8(h:Hp)(n:Nat)(us:List Nat):List Nat→Option Hp
 | []=>some []
 | id::r=>match bh8 h n us r with
  | none=>none
  | some l=>bif ax1 id us then some ((id,none)::l) else
   match ig h id with
   | none=>some ((id,none)::l)
   | some b=>bif bzx n b.b&&Ab id n then some ((id,some b)::l) else none
def bva:Hp→List Nat→List Nat
 | [],acc=>acc
 | (id,_)::r,acc=>bif ax1 id acc then bva r acc else bva r (id::acc)
def bcq(hl:Nat→Option Blk)(f:List (Nat×AVal)):List (Nat×Sh)→List (Nat×AVal)
 | []=>[]
 | (t,s)::r=>(t,aoe s (zk hl (look f t)))::bcq hl f r
def bdp(f:List (Nat×AVal)):List (Nat×Sh)→List Nat
 | []=>[]
 | (t,_)::r=>qd (u6 (look f t)) (bdp f r)
def as0(l:List (Nat×Sh))(st:ASt):ASt :=
 match l with
 | []=>st
 | l=>{ st with f:=qd (bcq (ig st.h) st.f l) st.f,h:=qd (freeze (ig st.h) (bdp st.f l) []) st.h }
def bml:AVal→Bool
 | .own _ | .win _ _ _=>true
 | _=>false
def bpz(hl:Nat→Option Blk)(a:AVal):AVal:=bif bml a then zk hl a else a
def bd0(hl:Nat→Option Blk):List AVal→List AVal
 | []=>[]
 | a::r=>bpz hl a::bd0 hl r
def aw3:List AVal→List Nat
 | []=>[]
 | a::r=>bif bml a then qd (u6 a) (aw3 r) else aw3 r
def aut(h:Hp):List Nat→List Nat
 | []=>[]
 | id::r=>match ig h id with
  | some ⟨.box _ l,_⟩=>qd (aw3 l) (aut h r)
  | _=>aut h r
def apf(hl:Nat→Option Blk)(h:Hp):List Nat→Hp
 | []=>[]
 | id::r=>match ig h id with
  | some ⟨.box e l,f⟩=>(id,some ⟨.box e (bd0 hl l),f⟩)::apf hl h r
  | _=>apf hl h r
def abw(ids:List Nat)(st:ASt):ASt :=
 match ids with
 | []=>st
 | ids=>{ st with h:=qd (apf (ig st.h) (qd (freeze (ig st.h) (aut st.h ids) []) st.h) ids) (qd (freeze (ig st.h) (aut st.h ids) []) st.h) }
def bgl:List AVal→List Nat
 | []=>[]
 | .ptr j 0::r=>j::bgl r
 | _::r=>bgl r
def bwx(f:List (Nat×AVal)):List Oper→List (Nat×AVal)
 | []=>f
 | o::r=>match o.dst,o.op with
  | some d,.move x=>bwx ((d,ev f x)::f) r
  | _,_=>bwx f r
def ati(D:Ctx)(f:List (Nat×AVal)):List Oper→List Nat
 | []=>[]
 | o::r=>match o.op with
  | .makeFunc _ first captured=>lun (qd (bgl (evs f first.toList)) (bgl (evs f captured.toList))) (ati D f r)
  | .call _=>match b4f f o.op with
   | some (g,as)=>match az2 D.inl g with
    | some _=>ati D f r
    | none=>lun (bgl as) (ati D f r)
   | none=>ati D f r
  | _=>ati D f r
def cbq(id:Nat)(l:List AVal):AVal→AVal
 | .ptr j 0=>bif Aa id j then .sta l else .ptr j 0
 | a=>a
def b0q(id:Nat)(l:List AVal):List (Nat×AVal)→List (Nat×AVal)
 | []=>[]
 | (t,a)::r=>(t,cbq id l a)::b0q id l r
def aw6(id:Nat)(st:ASt):ASt :=
 match ig st.h id with
 | some ⟨.box _ l,_⟩=>bif ate 0 l then { st with f:=b0q id l st.f,h:=qd (freeze (ig st.h) [id] []) st.h } else st
 | _=>st
def az0:List Nat→ASt→ASt
 | [],st=>st
 | id::r,st=>az0 r (aw6 id st)
def bvh(D:Ctx)(ops:List Oper)(st:ASt):ASt:=bif D.sta then az0 (ati D (bwx st.f ops) ops) (abw (ati D (bwx st.f ops) ops) st) else st
def coB(h:Hp):List (Nat×List Sh)→Hp
 | []=>[]
 | (id,s)::r=>match ig h id with
  | some ⟨.box e l,f⟩=>(id,some ⟨.box e (l8 s l),f⟩)::coB h r
  | _=>coB h r
def brn(l:List (Nat×List Sh))(st:ASt):ASt :=
 match l with
 | []=>st
 | l=>{ st with h:=qd (coB st.h l) st.h }
def boy(id:Nat)(d:List AVal)(st:ASt):ASt :=
 match ig st.h id with
 | some ⟨.box e [.v (.pointer none)],f⟩=>{ st with h:=(id,some ⟨.box e [.osta 0 d],f⟩)::st.h }
 | some ⟨.box _ [.ptr j 0],_⟩=>match ig (abw [j] st).h id,ig (abw [j] st).h j with
  | some ⟨.box e [.ptr j' 0],f⟩,some ⟨.box _ l,_⟩=>bif Aa j' j&&ate 0 l && !Nat.beq id j then
      { abw [j] st with h:=(id,some ⟨.box e [.osta 1 l],f⟩)::qd (freeze (ig (abw [j] st).h) [j] []) (abw [j] st).h } else abw [j] st
  | _,_=>abw [j] st
 | _=>st
def bph:List (Nat×List AVal)→ASt→ASt
 | [],st=>st
 | (id,d)::r,st=>bph r (boy id d st)
def awr(h:Hint)(st:ASt):ASt:=bph h.osb (brn h.shc (abw h.shb (as0 h.sls st)))
def bux(h:Hint)(st:ASt):List Nat :=
 match h.gc with
 | none=>bva st.h []
 | some (_,l)=>l
def bra(h:Hint)(n:Nat):Nat :=
 match h.gc with
 | none=>n
 | some (m,_)=>bif Nat.ble n m then m else n
def bob(h:Hp)(b:Nat):AVal:=match ig h b with
 | some ⟨.box _ [.own j],_⟩=>.own j
 | some ⟨.box _ [.v (.slice none 0 0)],_⟩=>.v (.slice none 0 0)
 | _=>.bot
def bor(st:ASt)(t:Nat):AVal:=bif Ab t 1000000 then look st.f t else bob st.h (t-1000000)
def buy:List (Nat×TypeId×Cont)→List Nat
 | []=>[]
 | (t,_,_)::r=>bif Ab t 1000000 then buy r else (t-1000000)::buy r
def clr(h:Hp):List Nat→Hp
 | []=>[]
 | b::r=>match ig h b with
  | some ⟨.box e [.own _],f⟩=>(b,some ⟨.box e [.bot],f⟩)::clr h r
  | some ⟨.box e [.v (.slice none 0 0)],f⟩=>(b,some ⟨.box e [.bot],f⟩)::clr h r
  | _=>clr h r
def b2x(h:Hp)(l:List Nat):Hp:=match l with
 | []=>h
 | l=>qd (clr h l) h
def slotsOf:List (Nat×AVal)→List (Nat×AVal)
 | []=>[]
 | (t,x)::r=>bif Ab t 1000000 then (t,x)::slotsOf r else slotsOf r
def b35(fs:List (Nat×AVal))(id:Nat)(b:Option Blk):Option Blk:=match b with
 | some ⟨.box e [.bot],f⟩=>match assoc fs (id+1000000) with
  | some x=>some ⟨.box e [x],f⟩
  | none=>b
 | _=>b
def bnf(fs:List (Nat×AVal)):Hp→Hp
 | []=>[]
 | (id,b)::r=>(id,b35 fs id b)::bnf fs r
def btt(fs:List (Nat×AVal))(l:List Nat)(h:Hp):Hp:=match l with
 | []=>h
 | _=>bnf fs h
def norm(h:Hint)(n:Nat)(ids:List Nat)(st:ASt):Option ASt :=
 match keepR (bor st) (b2x st.h (buy h.rows)) n h.rows with
 | none=>none
 | some (fs,hs,us)=>match boa st.f n h.keep,bh8 (b2x st.h (buy h.rows)) n us ids with
  | some f,some hh=>some { f:=qd (slotsOf fs) f,h:=btt fs (buy h.rows) (qd hs hh),n:=n+h.rows.length,m:=st.m }
  | _,_=>none
def bbz:List (Nat×tq)→Nat→Option tq
 | [],_=>none
 | (k,s)::r,t=>bif Aa k t then some s else bbz r t
def bro(f:List (Nat×AVal)):List Nat→List (Nat×AVal)
 | []=>[]
 | t::r=>(t,look f t)::bro f r
def bsn(h:Hint)(n:Nat)(ids:List Nat)(K:AExit→ASt→Option R)(next:ASt→Option R)(ex:AExit)(st:ASt):Option R :=
 match ex with
 | .normal=>match norm h n ids (awr h st) with
  | some st=>next st
  | none=>none
 | .exit id=>match norm h n ids (awr h st) with
  | some st=>K (.exit id) st
  | none=>none
 | .ret=>K .ret { st with f:=bro st.f h.boxes }
def iter(h:Hint)(n:Nat)(ids:List Nat)(F:ASt→(AExit→ASt→Option R)→Option R)(K:AExit→ASt→Option R):Nat→ASt→Option R
 | 0,st=>F st (bsn h n ids K fun _=>none)
 | k+1,st=>F st (bsn h n ids K (iter h n ids F K k))
def keysOf:Hp→List Nat
 | []=>[]
 | (id,_)::r=>id::keysOf r
def az3{α:Type}:Nat→List α→List α
 | 0,l=>l
 | _+1,[]=>[]
 | n+1,_::r=>az3 n r
def bc8:List (Nat×RngE)→Nat→Option RngE
 | [],_=>none
 | (k,s)::r,t=>bif Aa k t then some s else bc8 r t
def looks(f:List (Nat×AVal)):List Nat→List AVal
 | []=>[]
 | t::r=>look f t::looks f r
def bhn(id:Nat):Hp→Bool
 | []=>true
 | (_,some ⟨.box _ l,_⟩)::r => !pq id l&&bhn id r
 | _::r=>bhn id r
def noY:Option YCtx→Bool
 | none=>true
 | some _=>false
def bvv(D:Ctx)(st:ASt)(g:Operand)(body:Code):Option (RngE×List AVal×List AVal) :=
 match ev st.f g with
 | .fn (.func gid) first caps=>match bc8 D.rng (jy body) with
  | some e=>bif D.top&&noY D.y&&Aa gid e.g&&Aa st.m e.m then some (e,first,caps) else none
  | none=>none
 | _=>none
def af5(D:Ctx):Code→ASt→(AExit→ASt→Option R)→Option R
 | .skip,st,K=>K .normal st
 | .label _,st,K=>K .normal st
 | .region _ ops false,st,K=>bw1 D ops ops.toList (bvh D ops.toList st) fun st=>K .normal st
 | .region _ ops true,st,K=>bu6 D ops (bvh D ops.toList st) fun st=>K .normal st
 | .seq a b,st,K=>af5 D a st fun ex st'=>match ex with
  | .normal=>af5 D b st' K
  | .exit id=>K (.exit id) st'
  | .ret=>K .ret st'
 | .cond c x y,st,K=>match ev st.f c with
  | .v (.bool b)=>br b (af5 D x st K) (af5 D y st K)
  | _=>none
 | .block id c,st,K=>af5 D c st fun ex st'=>match ex with
  | .normal=>K .normal st'
  | .exit j=>bif Aa j id then K .normal st' else K (.exit j) st'
  | .ret=>K .ret st'
 | .loop c,st,K=>match norm (hintOf D.hints (jy c)) (bra (hintOf D.hints (jy c)) st.n) (bux (hintOf D.hints (jy c)) (awr (hintOf D.hints (jy c)) st)) (awr (hintOf D.hints (jy c)) st) with
  | none=>none
  | some st=>match bbz D.loops (jy c) with
   | some s=>s st K
   | none=>none
 | .exit id,st,K=>K (.exit id) st
 | .ret,st,K=>K .ret st
 | .rangeFunc g _ _ body,st,K=>match bvv D st g body with
  | some (e,first,caps)=>e.s (qd first (.yld st.n e.ts (looks st.f e.ts)::caps)) st.h (st.n+1) fun _ h n=>bif bhn st.n h then K .normal { f:=st.f,h:=h,n:=n,m:=st.m } else none
  | none=>none
 | _,_,_=>none
def dn:Code→List Code
 | .seq a b=>dn a++dn b
 | .cond _ a b=>dn a++dn b
 | .block _ c=>dn c
 | .loop c=>c::dn c
 | _=>[]
def yh:Code→List Code
 | .seq a b=>yh a++yh b
 | .cond _ a b=>yh a++yh b
 | .block _ c=>yh c
 | .loop c=>yh c
 | .rangeFunc g ps a b=>[.rangeFunc g ps a b]
 | _=>[]
def bni:List Nat→List AVal→List (Nat×AVal)
 | t::ts,a::r=>(t,a)::bni ts r
 | _,_=>[]
def bno(m:Nat):List Nat→Bool
 | []=>true
 | t::r=>Ab t m&&bno m r
def itA(D:Ctx)(c:Code)(K:AExit→ASt→Option R)(k:Nat)(st:ASt):Option R :=
 iter (hintOf D.hints (jy c)) (st.n-(hintOf D.hints (jy c)).rows.length) (keysOf (az3 (hintOf D.hints (jy c)).rows.length st.h)) (af5 D c) K k st
def jv(D:Ctx)(c:Code):Prop:=∀s,bbz D.loops (jy c)=some s→∀st K r,s st K=some r→∃k,itA D c K k st=some r
mutual
def atm:AVal→List Nat
 | .win j _ _ | .awin j _ _ _ _=>[j]
 | .agg l | .tuple l=>ag0 l
 | .fn _ a b=>qd (o9 a) (o9 b)
 | .alt _ _ a b _ c d=>qd (qd (o9 a) (o9 b)) (qd (o9 c) (o9 d))
 | .iface _ x=>u6 x
 | _=>[]
def ag0:List AVal→List Nat
 | []=>[]
 | a::r=>qd (atm a) (ag0 r)
end
mutual
def ax7(hl:Nat→Option Blk):AVal→AVal
 | .own id=>match hl id with
  | some ⟨.row e c,false⟩=>.fr e c
  | some ⟨.row _ c,true⟩=>.sl c
  | _=>.bot
 | .agg l=>.agg (aul hl l)
 | .tuple l=>.tuple (aul hl l)
 | a=>zk hl a
def aul(hl:Nat→Option Blk):List AVal→List AVal
 | []=>[]
 | a::r=>ax7 hl a::aul hl r
end
mutual
def atv:AVal→List Nat
 | .own j=>[j]
 | .agg l | .tuple l=>aln l
 | _=>[]
def aln:List AVal→List Nat
 | []=>[]
 | a::r=>qd (atv a) (aln r)
end
def ai7:List Nat→Bool
 | []=>true
 | a::r => !ax1 a r&&ai7 r
mutual
def bf6:Sh→AVal→AVal
 | .sl c,a=>bgu c (.sl c) a
 | .fr e c,a=>bgu c (.fr e c) a
 | .agg ss,.agg l=>.agg (biz ss l)
 | .agg ss,.fn f a c=>.fn f a (l8 ss c)
 | .alt f fa fc g ga gc,a=>ayv f fa fc g ga gc a
 | _,a=>a
def biz:List Sh→List AVal→List AVal
 | s::ss,a::r=>bf6 s a::biz ss r
 | _,l=>l
end
mutual
def bwj:Sh→AVal→List Nat
 | .sl _,.own j=>[j]
 | .agg ss,.agg l=>ai1 ss l
 | _,_=>[]
def ai1:List Sh→List AVal→List Nat
 | s::ss,a::r=>qd (bwj s a) (ai1 ss r)
 | _,_=>[]
end
def cellV(D:Ctx)(st:ASt)(t:Nat)(ty:TypeId):Option AVal :=
 match afi D.P ty,mg D.P ty with
 | some g,some sz=>match placeOf D (ig st.h) (look st.f t) sz with
  | some mid=>bif g then some (axu mid) else match mid with
   | [.arr ..]=>none
   | [a]=>some a
   | _=>none
  | none=>none
 | _,_=>none
def bqx(D:Ctx)(st:ASt):List ResultVar→Option (List AVal)
 | []=>some []
 | .tmp t::r=>match bqx D st r with
  | some l=>some (look st.f t::l)
  | none=>none
 | .cell t ty::r=>match cellV D st t ty,bqx D st r with
  | some a,some l=>some (a::l)
  | _,_=>none
def oneOf:List AVal→AVal
 | [a]=>a
 | l=>.tuple l
def bt2(D:Ctx)(sig:List Sh)(fn:Func)(st:ASt)(K:AVal→Option R):Option R :=
 match bqx D st fn.results.toList with
 | none=>none
 | some l =>
  bif ai7 (aln l) then K (oneOf (biz sig (aul (ig (qd (freeze (ig st.h) (qd (ag0 l) (ai1 sig l)) []) st.h)) l))) else none
def axe(D:Ctx)(Y:YCtx):bvj:=fun ts vs args h n K =>
 bif Aa args.length Y.ps.size&&ai7 Y.ps.toList&&bno Y.m Y.ps.toList then
  af5 D Y.assign ⟨qd (bni Y.ps.toList args) (bni ts vs),h,n,Y.m⟩ fun ex st=>match ex with
   | .normal=>af5 D Y.body st fun ex st=>match ex with
    | .normal=>K st.h st.n
    | _=>none
   | _=>none
 else none
def arx:Nat→List AVal→List (Nat×AVal)
 | _,[]=>[]
 | i,a::r=>(i,a)::arx (i+1) r
def brc(D:Ctx)(fn:Func)(sig:List Sh)(args:List AVal)(K:AVal→Option R):Option R :=
 match fn.body with
 | none=>none
 | some c=>bif Nat.ble args.length fn.ntmps then
     af5 D c ⟨arx 0 args,[],0,fn.ntmps⟩ fun ex st=>match ex with
      | .exit _=>none
      | .normal=>bt2 D sig fn st K
      | .ret=>bt2 D sig fn st K
  else none
def ain(D:Ctx)(fn:Func):bbt:=fun args h n K =>
 match fn.body with
 | none=>none
 | some c=>bif Nat.ble args.length fn.ntmps then
     af5 D c ⟨arx 0 args,h,n,fn.ntmps⟩ fun ex st=>match ex with
      | .exit _=>none
      | .normal=>outIn D fn st K
      | .ret=>outIn D fn st K
  else none
 where outIn (D:Ctx) (fn:Func) (st:ASt) (K:AVal→Hp→Nat→Option R):Option R :=
 match bqx D st fn.results.toList with
 | none=>none
 | some l=>K (oneOf l) st.h st.n
end Go.Abs
