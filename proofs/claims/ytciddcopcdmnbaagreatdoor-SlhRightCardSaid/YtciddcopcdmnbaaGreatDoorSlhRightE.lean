/-
  SlhRight, part 5: lemmas for the law.
-/

import Derived.Test.YtciddcopcdmnbaaGreatDoorSlhRightD
open Nat renaming beq → Aa, blt → Ab
set_option linter.unusedVariables false
set_option linter.unusedSimpArgs false

namespace Go.Abs
open Go Go.RowKit
def avm(ops:Array Oper)(j:Nat):Option Nat:=(ops[j]?).bind (·.dst)
def bgy(ops:Array Oper)(o:Oper)(st:ASt)(F:ASt→Option R)(S:ASt→Option R):Option R :=
 match o.guard with
 | none=>F st
 | some (j,want)=>match avm ops j with
  | none=>none
  | some t=>match look st.f t with
   | .v (.bool b)=>br b (bif want then F (st.put (some t) (.v (.bool true))) else S (st.put (some t) (.v (.bool true)))) (bif want then S (st.put (some t) (.v (.bool false))) else F (st.put (some t) (.v (.bool false))))
   | .v (.tuple _)=>S st
   | _=>none
def auz:List (Nat×axf)→Nat→Option axf
 | [],_=>none
 | (k,s)::r,t=>bif Aa k t then some s else auz r t
def bxv(f:List (Nat×AVal)):Op→Option (Nat×List AVal)
 | .call { callee:=.value x,args,.. }=>match ev f x with
  | .fn (.func g) first caps=>some (g,ru first (ru (evs f args.toList) caps))
  | _=>none
 | _=>none
def bmu(D:Ctx)(f:List (Nat×AVal))(op:Op):Option (axf×List AVal) :=
 match bxv f op with
 | some (g,as)=>match auz D.inl g with
  | some s=>some (s,as)
  | none=>none
 | none=>none
def brx(f:List (Nat×AVal)):Op→Option (List Nat×List AVal×List AVal)
 | .call { callee:=.value x,args,.. }=>match ev f x with
  | .yld _ ts vs=>some (ts,vs,evs f args.toList)
  | _=>none
 | _=>none
def doA(D:Ctx)(o:Oper)(st:ASt)(K:ASt→Option R):Option R :=
 match brx st.f o.op with
 | some (ts,vs,as)=>match D.ys with
  | some s=>s ts vs as st.h st.n fun h n=>K { f:=bql st.m o.dst (.v (.bool true)) st.f,h:=h,n:=n,m:=st.m }
  | none=>none
 | none=>match bmu D st.f o.op with
 | some (s,as)=>s as st.h st.n fun v h n=>K { f:=bql st.m o.dst v st.f,h:=h,n:=n,m:=st.m }
 | none=>opA D o st fun e=>K (st.app e o.dst)
def bsd(D:Ctx)(ops:Array Oper):List Oper→ASt→(ASt→Option R)→Option R
 | [],st,K=>K st
 | o::rest,st,K=>bgy ops o st (fun st=>doA D o st fun st=>bsd D ops rest st K) (fun st=>bsd D ops rest (st.put o.dst (.v undef)) K)
structure Info where
 looks:List Nat
 dst:Option Nat
 vs:List AVal
 puts:Hp
 cl:List Nat
def tmpsOf:List Operand→List Nat
 | []=>[]
 | .tmp t::r=>t::tmpsOf r
 | _::r=>tmpsOf r
def nth{α:Type}:List α→Nat→Option α
 | [],_=>none
 | a::_,0=>some a
 | _::r,n+1=>nth r n
def lun:List Nat→List Nat→List Nat
 | [],l=>l
 | a::r,l=>bif atu a l then lun r l else a::lun r l
def bod(acc:List Info)(i:Nat):List Edge→Option (List Nat)
 | []=>some []
 | e::r=>bif Region.binds .any e then
     bif Ab e.on i then
      match nth acc (i-1-e.on),bod acc i r with
      | some x,some l=>some (lun (e.on::x.cl) l)
      | _,_=>none
     else none
  else bod acc i r
def bal(d:Option Nat)(l:List Nat):Bool :=
 match d with
 | none=>false
 | some d=>atu d l
def awg(d d':Option Nat):Bool :=
 match d,d' with
 | some d,some d'=>Aa d d'
 | _,_=>false
def apw:Hp→List AVal→Hp→Bool
 | [],_,_=>false
 | (id,_)::r,vs,h=>qx id vs||(assoc h id).isSome||apw r vs h
def avy(x y:Info):Bool :=
 !(bal x.dst y.looks||bal y.dst x.looks||awg x.dst y.dst||apw x.puts y.vs y.puts||apw y.puts x.vs x.puts)
def bcb:List Info→Nat→Info→Bool
 | [],_,_=>true
 | x::r,n,y=>(atu (n-1) y.cl||avy x y)&&bcb r (n-1) y
def be9(ops:Array Oper)(o:Oper):List Nat :=
 match o.guard with
 | some (j,_)=>(avm ops j).toList
 | none=>[]
def bpg(ops:Array Oper)(o:Oper)(vs:List AVal)(puts:Hp)(cl:List Nat):Info:=⟨ru (be9 ops o) (tmpsOf (amg o.op)),o.dst,vs,puts,cl⟩
def az3(ops:Array Oper)(o:Oper)(cl:List Nat):Info:=⟨be9 ops o,o.dst,[],[],cl⟩
def bfu(acc:List Info)(i:Nat)(I:Info)(F:List Info→Option R):Option R:=bif bcb acc i I then F (I::acc) else none
def ay7(op:Op)(vs:List AVal):List AVal :=
 match op with
 | .move _ | .assign _ | .pick _ _ _ | .nilCheck _ | .makeFunc _ _ _ | .makeInterface _ _ | .fieldAddr _ _ _ | .box _ _=>[]
 | _=>vs
def opD(D:Ctx)(o:Oper)(st:ASt)(K:Eff→Option R):Option R :=
 core D o.op (evs st.f (amg o.op)) (mask (ay7 o.op (evs st.f (amg o.op))) st.h) st.n K
def azq(D:Ctx)(ops:Array Oper):List Oper→Nat→List Info→ASt→(List Info→ASt→Option R)→Option R
 | [],_,acc,st,K=>K acc st
 | o::rest,i,acc,st,K =>
  match bod acc i o.after.toList with
  | none=>none
  | some cl =>
   bgy ops o st
    (fun st=>opD D o st fun e=>bfu acc i (bpg ops o (ay7 o.op (evs st.f (amg o.op))) e.puts cl) fun acc=>azq D ops rest (i+1) acc (st.app e o.dst) K)
    (fun st=>bfu acc i (az3 ops o cl) fun acc=>azq D ops rest (i+1) acc (st.put o.dst (.v undef)) K)
def bcg{α:Type}:List α→Option (List α×α)
 | []=>none
 | a::r=>match bcg r with
  | some (x,y)=>some (a::x,y)
  | none=>some ([],a)
def allIn:Nat→List Nat→Bool
 | 0,_=>true
 | n+1,l=>atu n l&&allIn n l
def bqr(D:Ctx)(ops:Array Oper)(st:ASt)(K:ASt→Option R):Option R :=
 match bcg ops.toList with
 | some (l0,o)=>bif (bmu D [] o.op).isSome&&o.guard.isNone then
     azq D ops l0 0 [] st fun acc st=>match bod acc l0.length o.after.toList with
      | some cl=>bif allIn l0.length cl then doA D o st K else none
      | none=>none
  else azq D ops ops.toList 0 [] st fun _=>K
 | none=>azq D ops ops.toList 0 [] st fun _=>K
def jy:Code→Nat
 | .region id _ _=>id
 | .seq a _=>jy a
 | .block _ b=>jy b
 | .loop b=>jy b
 | .scope b=>jy b
 | _=>0
def hintOf:List (Nat×Hint)→Nat→Hint
 | [],_=>⟨[],[],[],[],none,[],[],[]⟩
 | (k,h)::r,t=>bif Aa k t then h else hintOf r t
def bua(n:Nat):Bk→Bool
 | .row _ _=>true
 | .box _ l=>ap7 n l
def bjd(f:List (Nat×AVal))(n:Nat):List Nat→Option (List (Nat×AVal))
 | []=>some []
 | t::r=>bif bnd n (look f t) then
     match bjd f n r with
     | some l=>some ((t,look f t)::l)
     | none=>none
  else none
def keepR(g:Nat→AVal)(h:Hp):Nat→List (Nat×TypeId×Cont)→Option (List (Nat×AVal)×Hp×List Nat)
 | _,[]=>some ([],[],[])
 | n,(t,e,c0)::r=>match keepR g h (n+1) r with
  | none=>none
  | some (fs,hs,us)=>match g t with
   | .own id=>match gq h id with
    | some ⟨.row e' c,false⟩=>bif Aa e e' && !atu id us then some ((t,.own n)::fs,(n,some ⟨.row e c,false⟩)::hs,id::us) else none
    | _=>none
   | .win id 0 len=>match gq h id with
    | some ⟨.row e' c,false⟩=>bif Aa e e' && !atu id us then some ((t,.own n)::fs,(n,some ⟨.row e (c.take len),false⟩)::hs,id::us) else none
    | _=>none
   | .v (.slice none 0 0)=>bif Aa c0.len 0 then some ((t,.own n)::fs,(n,some ⟨.row e c0,false⟩)::hs,us) else none
   | _=>none
def bbq(h:Hp)(n:Nat)(us:List Nat):List Nat→Option Hp
 | []=>some []
 | id::r=>match bbq h n us r with
  | none=>none
  | some l=>bif atu id us then some ((id,none)::l) else
   match gq h id with
   | none=>some ((id,none)::l)
   | some b=>bif bua n b.b&&Ab id n then some ((id,some b)::l) else none
def brm:Hp→List Nat→List Nat
 | [],acc=>acc
 | (id,_)::r,acc=>bif atu id acc then brm r acc else brm r (id::acc)
def axt(hl:Nat→Option Blk)(f:List (Nat×AVal)):List (Nat×Sh)→List (Nat×AVal)
 | []=>[]
 | (t,s)::r=>(t,amf s (zo hl (look f t)))::axt hl f r
def axi(f:List (Nat×AVal)):List (Nat×Sh)→List Nat
 | []=>[]
 | (t,_)::r=>ru (vk (look f t)) (axi f r)
def apj(l:List (Nat×Sh))(st:ASt):ASt :=
 match l with
 | []=>st
 | l=>{ st with f:=ru (axt (gq st.h) st.f l) st.f,h:=ru (freeze (gq st.h) (axi st.f l) []) st.h }
def bhh:AVal→Bool
 | .own _ | .win _ _ _=>true
 | _=>false
def bid(hl:Nat→Option Blk)(a:AVal):AVal:=bif bhh a then zo hl a else a
def ayb(hl:Nat→Option Blk):List AVal→List AVal
 | []=>[]
 | a::r=>bid hl a::ayb hl r
def att:List AVal→List Nat
 | []=>[]
 | a::r=>bif bhh a then ru (vk a) (att r) else att r
def arh(h:Hp):List Nat→List Nat
 | []=>[]
 | id::r=>match gq h id with
  | some ⟨.box _ l,_⟩=>ru (att l) (arh h r)
  | _=>arh h r
def anf(hl:Nat→Option Blk)(h:Hp):List Nat→Hp
 | []=>[]
 | id::r=>match gq h id with
  | some ⟨.box e l,f⟩=>(id,some ⟨.box e (ayb hl l),f⟩)::anf hl h r
  | _=>anf hl h r
def abl(ids:List Nat)(st:ASt):ASt :=
 match ids with
 | []=>st
 | ids=>{ st with h:=ru (anf (gq st.h) (ru (freeze (gq st.h) (arh st.h ids) []) st.h) ids) (ru (freeze (gq st.h) (arh st.h ids) []) st.h) }
def bco:List AVal→List Nat
 | []=>[]
 | .ptr j 0::r=>j::bco r
 | _::r=>bco r
def bsc(f:List (Nat×AVal)):List Oper→List (Nat×AVal)
 | []=>f
 | o::r=>match o.dst,o.op with
  | some d,.move x=>bsc ((d,ev f x)::f) r
  | _,_=>bsc f r
def aqt(D:Ctx)(f:List (Nat×AVal)):List Oper→List Nat
 | []=>[]
 | o::r=>match o.op with
  | .makeFunc _ first captured=>lun (ru (bco (evs f first.toList)) (bco (evs f captured.toList))) (aqt D f r)
  | .call _=>match bxv f o.op with
   | some (g,as)=>match auz D.inl g with
    | some _=>aqt D f r
    | none=>lun (bco as) (aqt D f r)
   | none=>aqt D f r
  | _=>aqt D f r
def b23(id:Nat)(l:List AVal):AVal→AVal
 | .ptr j 0=>bif Aa id j then .sta l else .ptr j 0
 | a=>a
def bsp(id:Nat)(l:List AVal):List (Nat×AVal)→List (Nat×AVal)
 | []=>[]
 | (t,a)::r=>(t,b23 id l a)::bsp id l r
def as7(id:Nat)(st:ASt):ASt :=
 match gq st.h id with
 | some ⟨.box _ l,_⟩=>bif ap7 0 l then { st with f:=bsp id l st.f,h:=ru (freeze (gq st.h) [id] []) st.h } else st
 | _=>st
def ave:List Nat→ASt→ASt
 | [],st=>st
 | id::r,st=>ave r (as7 id st)
def bq2(D:Ctx)(ops:List Oper)(st:ASt):ASt:=bif D.sta then ave (aqt D (bsc st.f ops) ops) (abl (aqt D (bsc st.f ops) ops) st) else st
def coB(h:Hp):List (Nat×List Sh)→Hp
 | []=>[]
 | (id,s)::r=>match gq h id with
  | some ⟨.box e l,f⟩=>(id,some ⟨.box e (o8 s l),f⟩)::coB h r
  | _=>coB h r
def bma(l:List (Nat×List Sh))(st:ASt):ASt :=
 match l with
 | []=>st
 | l=>{ st with h:=ru (coB st.h l) st.h }
def bk4(id:Nat)(d:List AVal)(st:ASt):ASt :=
 match gq st.h id with
 | some ⟨.box e [.v (.pointer none)],f⟩=>{ st with h:=(id,some ⟨.box e [.osta 0 d],f⟩)::st.h }
 | some ⟨.box _ [.ptr j 0],_⟩=>match gq (abl [j] st).h id,gq (abl [j] st).h j with
  | some ⟨.box e [.ptr j' 0],f⟩,some ⟨.box _ l,_⟩=>bif Aa j' j&&ap7 0 l && !Nat.beq id j then
      { abl [j] st with h:=(id,some ⟨.box e [.osta 1 l],f⟩)::ru (freeze (gq (abl [j] st).h) [j] []) (abl [j] st).h } else abl [j] st
  | _,_=>abl [j] st
 | _=>st
def bj7:List (Nat×List AVal)→ASt→ASt
 | [],st=>st
 | (id,d)::r,st=>bj7 r (bk4 id d st)
def ati(h:Hint)(st:ASt):ASt:=bj7 h.osb (bma h.shc (abl h.shb (apj h.sls st)))
def bpz(h:Hint)(st:ASt):List Nat :=
 match h.gc with
 | none=>brm st.h []
 | some (_,l)=>l
def bm4(h:Hint)(n:Nat):Nat :=
 match h.gc with
 | none=>n
 | some (m,_)=>bif Nat.ble n m then m else n
def blv(h:Hp)(b:Nat):AVal:=match gq h b with
 | some ⟨.box _ [.own j],_⟩=>.own j
 | some ⟨.box _ [.v (.slice none 0 0)],_⟩=>.v (.slice none 0 0)
 | _=>.bot
def bjh(st:ASt)(t:Nat):AVal:=bif Ab t 1000000 then look st.f t else blv st.h (t-1000000)
def br4:List (Nat×TypeId×Cont)→List Nat
 | []=>[]
 | (t,_,_)::r=>bif Ab t 1000000 then br4 r else (t-1000000)::br4 r
def clr(h:Hp):List Nat→Hp
 | []=>[]
 | b::r=>match gq h b with
  | some ⟨.box e [.own _],f⟩=>(b,some ⟨.box e [.bot],f⟩)::clr h r
  | some ⟨.box e [.v (.slice none 0 0)],f⟩=>(b,some ⟨.box e [.bot],f⟩)::clr h r
  | _=>clr h r
def bs4(h:Hp)(l:List Nat):Hp:=match l with
 | []=>h
 | l=>ru (clr h l) h
def slotsOf:List (Nat×AVal)→List (Nat×AVal)
 | []=>[]
 | (t,x)::r=>bif Ab t 1000000 then (t,x)::slotsOf r else slotsOf r
def bxb(fs:List (Nat×AVal))(id:Nat)(b:Option Blk):Option Blk:=match b with
 | some ⟨.box e [.bot],f⟩=>match assoc fs (id+1000000) with
  | some x=>some ⟨.box e [x],f⟩
  | none=>b
 | _=>b
def bhx(fs:List (Nat×AVal)):Hp→Hp
 | []=>[]
 | (id,b)::r=>(id,bxb fs id b)::bhx fs r
def boy(fs:List (Nat×AVal))(l:List Nat)(h:Hp):Hp:=match l with
 | []=>h
 | _=>bhx fs h
def norm(h:Hint)(n:Nat)(ids:List Nat)(st:ASt):Option ASt :=
 match keepR (bjh st) (bs4 st.h (br4 h.rows)) n h.rows with
 | none=>none
 | some (fs,hs,us)=>match bjd st.f n h.keep,bbq (bs4 st.h (br4 h.rows)) n us ids with
  | some f,some hh=>some { f:=ru (slotsOf fs) f,h:=boy fs (br4 h.rows) (ru hs hh),n:=n+h.rows.length,m:=st.m }
  | _,_=>none
def axz:List (Nat×za)→Nat→Option za
 | [],_=>none
 | (k,s)::r,t=>bif Aa k t then some s else axz r t
def bnn(f:List (Nat×AVal)):List Nat→List (Nat×AVal)
 | []=>[]
 | t::r=>(t,look f t)::bnn f r
def boh(h:Hint)(n:Nat)(ids:List Nat)(K:AExit→ASt→Option R)(next:ASt→Option R)(ex:AExit)(st:ASt):Option R :=
 match ex with
 | .normal=>match norm h n ids (ati h st) with
  | some st=>next st
  | none=>none
 | .exit id=>match norm h n ids (ati h st) with
  | some st=>K (.exit id) st
  | none=>none
 | .ret=>K .ret { st with f:=bnn st.f h.boxes }
def iter(h:Hint)(n:Nat)(ids:List Nat)(F:ASt→(AExit→ASt→Option R)→Option R)(K:AExit→ASt→Option R):Nat→ASt→Option R
 | 0,st=>F st (boh h n ids K fun _=>none)
 | k+1,st=>F st (boh h n ids K (iter h n ids F K k))
def keysOf:Hp→List Nat
 | []=>[]
 | (id,_)::r=>id::keysOf r
def awn{α:Type}:Nat→List α→List α
 | 0,l=>l
 | _+1,[]=>[]
 | n+1,_::r=>awn n r
def ayg:List (Nat×RngE)→Nat→Option RngE
 | [],_=>none
 | (k,s)::r,t=>bif Aa k t then some s else ayg r t
def looks(f:List (Nat×AVal)):List Nat→List AVal
 | []=>[]
 | t::r=>look f t::looks f r
def bbg(id:Nat):Hp→Bool
 | []=>true
 | (_,some ⟨.box _ l,_⟩)::r => !qx id l&&bbg id r
 | _::r=>bbg id r
def noY:Option YCtx→Bool
 | none=>true
 | some _=>false
def bp4(D:Ctx)(st:ASt)(g:Operand)(body:Code):Option (RngE×List AVal×List AVal) :=
 match ev st.f g with
 | .fn (.func gid) first caps=>match ayg D.rng (jy body) with
  | some e=>bif D.top&&noY D.y&&Aa gid e.g&&Aa st.m e.m then some (e,first,caps) else none
  | none=>none
 | _=>none
def afe(D:Ctx):Code→ASt→(AExit→ASt→Option R)→Option R
 | .skip,st,K=>K .normal st
 | .label _,st,K=>K .normal st
 | .region _ ops false,st,K=>bsd D ops ops.toList (bq2 D ops.toList st) fun st=>K .normal st
 | .region _ ops true,st,K=>bqr D ops (bq2 D ops.toList st) fun st=>K .normal st
 | .seq a b,st,K=>afe D a st fun ex st'=>match ex with
  | .normal=>afe D b st' K
  | .exit id=>K (.exit id) st'
  | .ret=>K .ret st'
 | .cond c x y,st,K=>match ev st.f c with
  | .v (.bool b)=>br b (afe D x st K) (afe D y st K)
  | _=>none
 | .block id c,st,K=>afe D c st fun ex st'=>match ex with
  | .normal=>K .normal st'
  | .exit j=>bif Aa j id then K .normal st' else K (.exit j) st'
  | .ret=>K .ret st'
 | .loop c,st,K=>match norm (hintOf D.hints (jy c)) (bm4 (hintOf D.hints (jy c)) st.n) (bpz (hintOf D.hints (jy c)) (ati (hintOf D.hints (jy c)) st)) (ati (hintOf D.hints (jy c)) st) with
  | none=>none
  | some st=>match axz D.loops (jy c) with
   | some s=>s st K
   | none=>none
 | .exit id,st,K=>K (.exit id) st
 | .ret,st,K=>K .ret st
 | .rangeFunc g _ _ body,st,K=>match bp4 D st g body with
  | some (e,first,caps)=>e.s (ru first (.yld st.n e.ts (looks st.f e.ts)::caps)) st.h (st.n+1) fun _ h n=>bif bbg st.n h then K .normal { f:=st.f,h:=h,n:=n,m:=st.m } else none
  | none=>none
 | _,_,_=>none
def gu:Code→List Code
 | .seq a b=>gu a++gu b
 | .cond _ a b=>gu a++gu b
 | .block _ c=>gu c
 | .loop c=>c::gu c
 | _=>[]
def vg:Code→List Code
 | .seq a b=>vg a++vg b
 | .cond _ a b=>vg a++vg b
 | .block _ c=>vg c
 | .loop c=>vg c
 | .rangeFunc g ps a b=>[.rangeFunc g ps a b]
 | _=>[]
def bh0:List Nat→List AVal→List (Nat×AVal)
 | t::ts,a::r=>(t,a)::bh0 ts r
 | _,_=>[]
def bie(m:Nat):List Nat→Bool
 | []=>true
 | t::r=>Ab t m&&bie m r
def itA(D:Ctx)(c:Code)(K:AExit→ASt→Option R)(k:Nat)(st:ASt):Option R :=
 iter (hintOf D.hints (jy c)) (st.n-(hintOf D.hints (jy c)).rows.length) (keysOf (awn (hintOf D.hints (jy c)).rows.length st.h)) (afe D c) K k st
def o9(D:Ctx)(c:Code):Prop:=∀s,axz D.loops (jy c)=some s→∀st K r,s st K=some r→∃k,itA D c K k st=some r
mutual
def aqp:AVal→List Nat
 | .win j _ _ | .awin j _ _ _ _=>[j]
 | .agg l | .tuple l=>afx l
 | .fn _ a b=>ru (qp a) (qp b)
 | .alt _ _ a b _ c d=>ru (ru (qp a) (qp b)) (ru (qp c) (qp d))
 | .iface _ x=>vk x
 | _=>[]
def afx:List AVal→List Nat
 | []=>[]
 | a::r=>ru (aqp a) (afx r)
end
mutual
def aub(hl:Nat→Option Blk):AVal→AVal
 | .own id=>match hl id with
  | some ⟨.row e c,false⟩=>.fr e c
  | some ⟨.row _ c,true⟩=>.sl c
  | _=>.bot
 | .agg l=>.agg (ari hl l)
 | .tuple l=>.tuple (ari hl l)
 | a=>zo hl a
def ari(hl:Nat→Option Blk):List AVal→List AVal
 | []=>[]
 | a::r=>aub hl a::ari hl r
end
mutual
def aqa:AVal→List Nat
 | .own j=>[j]
 | .agg l | .tuple l=>ajr l
 | _=>[]
def ajr:List AVal→List Nat
 | []=>[]
 | a::r=>ru (aqa a) (ajr r)
end
def ah2:List Nat→Bool
 | []=>true
 | a::r => !atu a r&&ah2 r
mutual
def bao:Sh→AVal→AVal
 | .sl c,a=>bcd c (.sl c) a
 | .fr e c,a=>bcd c (.fr e c) a
 | .agg ss,.agg l=>.agg (bdg ss l)
 | .agg ss,.fn f a c=>.fn f a (o8 ss c)
 | .alt f fa fc g ga gc,a=>awh f fa fc g ga gc a
 | _,a=>a
def bdg:List Sh→List AVal→List AVal
 | s::ss,a::r=>bao s a::bdg ss r
 | _,l=>l
end
mutual
def brf:Sh→AVal→List Nat
 | .sl _,.own j=>[j]
 | .agg ss,.agg l=>ahv ss l
 | _,_=>[]
def ahv:List Sh→List AVal→List Nat
 | s::ss,a::r=>ru (brf s a) (ahv ss r)
 | _,_=>[]
end
def cellV(D:Ctx)(st:ASt)(t:Nat)(ty:TypeId):Option AVal :=
 match aex D.P ty,oh D.P ty with
 | some g,some sz=>match placeOf D (gq st.h) (look st.f t) sz with
  | some mid=>bif g then some (atw mid) else match mid with
   | [.arr ..]=>none
   | [a]=>some a
   | _=>none
  | none=>none
 | _,_=>none
def bl5(D:Ctx)(st:ASt):List ResultVar→Option (List AVal)
 | []=>some []
 | .tmp t::r=>match bl5 D st r with
  | some l=>some (look st.f t::l)
  | none=>none
 | .cell t ty::r=>match cellV D st t ty,bl5 D st r with
  | some a,some l=>some (a::l)
  | _,_=>none
def oneOf:List AVal→AVal
 | [a]=>a
 | l=>.tuple l
def bps(D:Ctx)(sig:List Sh)(fn:Func)(st:ASt)(K:AVal→Option R):Option R :=
 match bl5 D st fn.results.toList with
 | none=>none
 | some l =>
  bif ah2 (ajr l) then K (oneOf (bdg sig (ari (gq (ru (freeze (gq st.h) (ru (afx l) (ahv sig l)) []) st.h)) l))) else none
def aji(D:Ctx)(Y:YCtx):bq6:=fun ts vs args h n K =>
 bif Aa args.length Y.ps.size&&ah2 Y.ps.toList&&bie Y.m Y.ps.toList then
  afe D Y.assign ⟨ru (bh0 Y.ps.toList args) (bh0 ts vs),h,n,Y.m⟩ fun ex st=>match ex with
   | .normal=>afe D Y.body st fun ex st=>match ex with
    | .normal=>K st.h st.n
    | _=>none
   | _=>none
 else none
def apq:Nat→List AVal→List (Nat×AVal)
 | _,[]=>[]
 | i,a::r=>(i,a)::apq (i+1) r
def bhl(D:Ctx)(fn:Func)(sig:List Sh)(args:List AVal)(K:AVal→Option R):Option R :=
 match fn.body with
 | none=>none
 | some c=>bif Nat.ble args.length fn.ntmps then
     afe D c ⟨apq 0 args,[],0,fn.ntmps⟩ fun ex st=>match ex with
      | .exit _=>none
      | .normal=>bps D sig fn st K
      | .ret=>bps D sig fn st K
  else none
def adv(D:Ctx)(fn:Func):axf:=fun args h n K =>
 match fn.body with
 | none=>none
 | some c=>bif Nat.ble args.length fn.ntmps then
     afe D c ⟨apq 0 args,h,n,fn.ntmps⟩ fun ex st=>match ex with
      | .exit _=>none
      | .normal=>outIn D fn st K
      | .ret=>outIn D fn st K
  else none
 where outIn (D:Ctx) (fn:Func) (st:ASt) (K:AVal→Hp→Nat→Option R):Option R :=
 match bl5 D st fn.results.toList with
 | none=>none
 | some l=>K (oneOf l) st.h st.n
end Go.Abs
