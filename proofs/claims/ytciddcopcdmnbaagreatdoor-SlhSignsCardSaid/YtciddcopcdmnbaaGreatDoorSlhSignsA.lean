/-
  SlhSigns, part 1: lemmas for the law.
-/

import Derived.Orders
import Derived.Laws.Entries
import Derived.Laws.AppendOwn
import Derived.Laws.AppendOwnNone
import Derived.Below
open Nat renaming beq → Aa, blt → Ae
open List renaming getElem?_append_right → Ab, getElem?_append_left → Ac, getElem?_eq_getElem → Ad, getElem?_drop → Ah, getElem?_map → Ai, length_map → Aj, replicate → Ak, getElem?_take_of_lt → Al
open Array renaming getElem?_toList → Af
open Bool renaming and_eq_true → Ag
set_option linter.unusedVariables false
set_option linter.unusedSimpArgs false

section
def Go.bu7{α:Type}(n:Nat)(l:List α)(d:α):List α:=l.take n++Ak (n-l.length) d
namespace Go.Abs
open Go
inductive Cont where
 | ints (k:IntKind) (l:List Int)
 | rows (k:IntKind) (l:List (List Int))
 | rows2 (k:IntKind) (l:List (List (List Int)))
 | cols (n:Nat) (cs:List Cont)
inductive AVal where
 | v (x:Value)
 | bot
 | sl (c:Cont)
 | own (id:Nat)
 | win (id:Nat) (off len:Nat)
 | awin (id off m lo len:Nat)
 | arr (k:IntKind) (n:Nat) (l:List Int)
 | agg (l:List AVal)
 | ptr (id off:Nat)
 | pel (id sz i:Nat)
 | apel (id off m i:Nat)
 | fel (id sz i off:Nat)
 | sta (l:List AVal)
 | osta (t:Nat) (l:List AVal)
 | fn (f:Fn) (first caps:List AVal)
 | iface (t:TypeId) (x:AVal)
 | tuple (l:List AVal)
 | fr (e:TypeId) (c:Cont)
 | glob (g off:Nat)
 | gel (g off m i:Nat)
 | yld (id:Nat) (ts:List Nat) (vs:List AVal)
 | alt (t:Nat) (f:Fn) (fa fc:List AVal) (g:Fn) (ga gc:List AVal)
inductive Bk where
 | row (e:TypeId) (c:Cont)
 | box (e:TypeId) (l:List AVal)
structure Blk where
 b:Bk
 frz:Bool
@[irreducible] def br {α:Type} (b:Bool) (x y:α):α:=cond b x y
mutual
def mentions(id:Nat):AVal→Bool
 | .own j | .win j _ _ | .awin j _ _ _ _ | .ptr j _ | .pel j _ _ | .apel j _ _ _ | .fel j _ _ _=>Aa id j
 | .agg l | .sta l | .tuple l | .osta _ l=>sj id l
 | .fn _ a b=>sj id a||sj id b
 | .iface _ x=>mentions id x
 | .yld j _ l=>Aa id j||sj id l
 | .alt _ _ a b _ c d=>(sj id a||sj id b)||(sj id c||sj id d)
 | _=>false
def sj(id:Nat):List AVal→Bool
 | []=>false
 | a::r=>mentions id a||sj id r
end
def tq{α:Type}:List α→List α→List α
 | [],l=>l
 | a::r,l=>a::tq r l
mutual
def xg:AVal→List Nat
 | .own j | .win j _ _ | .awin j _ _ _ _=>[j]
 | .agg l | .tuple l=>ru l
 | .fn _ a b=>tq (ru a) (ru b)
 | .iface _ x=>xg x
 | .alt _ _ a b _ c d=>tq (tq (ru a) (ru b)) (tq (ru c) (ru d))
 | _=>[]
def ru:List AVal→List Nat
 | []=>[]
 | a::r=>tq (xg a) (ru r)
end
abbrev Hp:=List (Nat×Option Blk)
def look:List (Nat×AVal)→Nat→AVal
 | [],_=>.bot
 | (k,a)::r,t=>bif Aa k t then a else look r t
def iw:Hp→Nat→Option Blk
 | [],_=>none
 | (k,b)::r,t=>bif Aa k t then b else iw r t
structure ASt where
 f:List (Nat×AVal)
 h:Hp
 n:Nat
 m:Nat
inductive AExit where
 | normal
 | exit (id:Nat)
 | ret
abbrev R:=AVal
abbrev Spec:=List AVal→(AVal→Option R)→Option R
inductive Sh where
 | any
 | sl (c:Cont)
 | fr (e:TypeId) (c:Cont)
 | agg (l:List Sh)
 | alt (f:Fn) (fa fc:List AVal) (g:Fn) (ga gc:List AVal)
structure Hint where
 keep:List Nat
 rows:List (Nat×TypeId×Cont)
 boxes:List Nat
 sls:List (Nat×Sh):=[]
 gc:Option (Nat×List Nat):=none
 shb:List Nat:=[]
 shc:List (Nat×List Sh):=[]
 osb:List (Nat×List AVal):=[]
abbrev biz:=List AVal→Hp→Nat→(AVal→Hp→Nat→Option R)→Option R
abbrev p8:=ASt→(AExit→ASt→Option R)→Option R
abbrev b4d:=List Nat→List AVal→List AVal→Hp→Nat→(Hp→Nat→Option R)→Option R
structure YCtx where
 ps:Array Tmp
 assign:Code
 body:Code
 m:Nat
 ready:Bool
structure RngE where
 g:Nat
 m:Nat
 ts:List Nat
 s:biz
structure Ctx where
 P:Program
 G:List (Nat×Spec)
 globs:List (Nat×List AVal)
 hints:List (Nat×Hint)
 loops:List (Nat×p8)
 inl:List (Nat×biz):=[]
 top:Bool:=false
 y:Option YCtx:=none
 ys:Option b4d:=none
 rng:List (Nat×RngE):=[]
 sta:Bool:=false
def assoc{α:Type}:List (Nat×α)→Nat→Option α
 | [],_=>none
 | (k,b)::r,t=>bif Aa k t then some b else assoc r t
def ay3:List (Nat×Spec)→Nat→Option Spec
 | [],_=>none
 | (k,b)::r,t=>bif Aa k t then some b else ay3 r t
def aw1:IntKind→IntKind→Bool
 | .i8,.i8 | .i16,.i16 | .i32,.i32 | .i64,.i64 | .u8,.u8 | .u16,.u16 | .u32,.u32 | .u64,.u64=>true
 | _,_=>false
namespace Cont
def len:Cont→Nat
 | .ints _ l=>l.length
 | .rows _ l=>l.length
 | .rows2 _ l=>l.length
 | .cols n _=>n
def size:Cont→Nat
 | .cols _ cs=>cs.length
 | _=>1
def ba3:Cont→Nat→AVal
 | .ints k l,i=>.v (.int k (l.getD i 0))
 | .rows k l,i=>.sl (.ints k (l.getD i []))
 | .rows2 k l,i=>.sl (.rows k (l.getD i []))
 | .cols _ _,_=>.bot
def azx:List Cont→Nat→List AVal
 | [],_=>[]
 | c::r,i=>c.ba3 i::azx r i
def elem:Cont→Nat→List AVal
 | .cols _ cs,i=>azx cs i
 | c,i=>[c.ba3 i]
def take1(n:Nat):Cont→Cont
 | .ints k l=>.ints k (l.take n)
 | .rows k l=>.rows k (l.take n)
 | .rows2 k l=>.rows2 k (l.take n)
 | .cols m cs=>.cols m cs
def takes(n:Nat):List Cont→List Cont
 | []=>[]
 | c::r=>c.take1 n::takes n r
def take(n:Nat):Cont→Cont
 | .cols m cs=>.cols (min n m) (takes n cs)
 | c=>c.take1 n
def app1(n:Nat):Cont→Cont→Option Cont
 | .ints k l,.ints k' l'=>bif aw1 k k' then some (.ints k (bu7 n l 0++l')) else none
 | .rows k l,.rows k' l'=>bif aw1 k k' then some (.rows k (bu7 n l []++l')) else none
 | _,_=>none
def apps(n:Nat):List Cont→List Cont→Option (List Cont)
 | [],[]=>some []
 | c::r,d::s=>match app1 n c d with
  | some x=>match apps n r s with
   | some y=>some (x::y)
   | none=>none
  | none=>none
 | _,_=>none
def app:Cont→Cont→Option Cont
 | .ints k l,.ints k' l'=>bif aw1 k k' then some (.ints k (l++l')) else none
 | .rows k l,.rows k' l'=>bif aw1 k k' then some (.rows k (l++l')) else none
 | .rows2 k l,.rows2 k' l'=>bif aw1 k k' then some (.rows2 k (l++l')) else none
 | .cols n cs,.cols m ds=>match apps n cs ds with
  | some l=>some (.cols (n+m) l)
  | none=>none
 | _,_=>none
def set:Cont→Nat→AVal→Option Cont
 | .ints k l,i,.v (.int k' a)=>bif aw1 k k' then some (.ints k (l.set i a)) else none
 | .rows k l,i,.sl (.ints k' a)=>bif aw1 k k' then some (.rows k (l.set i a)) else none
 | _,_,_=>none
end Cont
def bax:AVal→Nat
 | .arr _ n _=>n
 | _=>1
def ab3:List AVal→Nat→Option (List AVal×List AVal)
 | l,0=>some ([],l)
 | [],_+1=>none
 | a::r,off+1 =>
  bif Nat.ble (bax a) (off+1) then
   match ab3 r (off+1-bax a) with
   | some (x,y)=>some (a::x,y)
   | none=>none
  else none
def bn4(l:List AVal)(off sz:Nat):Option (List AVal×List AVal×List AVal) :=
 match ab3 l off with
 | some (pre,rest)=>match ab3 rest sz with
  | some (mid,post)=>some (pre,mid,post)
  | none=>none
 | none=>none
def bdu:List AVal→AVal
 | [.arr k n l]=>.arr k n l
 | l=>.agg l
def partsOf:AVal→Option (List AVal)
 | .agg l=>some l
 | .arr k n l=>some [.arr k n l]
 | .v (.agg _) | .v (.tuple _) | .bot | .tuple _ | .fr _ _=>none
 | a=>some [a]
def ahb(P:Program)(t:TypeId):Option Bool :=
 match P.underlying t with
 | some (.struct _) | some (.array _ _)=>some true
 | some _=>some false
 | none=>none
def oo(P:Program)(t:TypeId):Option Nat:=(P.info? t).map (·.size)
def br0(P:Program)(t:TypeId):Option Nat:=(P.info? t).map (·.bytes)
def amt(k:IntKind):Nat→List Value→Option (List Int×List Value)
 | 0,r=>some ([],r)
 | n+1,.int k' x::r=>bif aw1 k k' then
     match amt k n r with
     | some (l,r)=>some (x::l,r)
     | none=>none
  else none
 | _+1,_=>none
mutual
def comps(P:Program):Nat→TypeId→List Value→Option (List AVal×List Value)
 | 0,_,_=>none
 | d+1,t,cs =>
  match P.underlying t with
  | some (.struct fs)=>bkf P d fs.toList cs
  | some (.array n e)=>match P.underlying e with
   | some (.int k)=>match amt k n cs with
    | some (l,r)=>some ([.arr k n l],r)
    | none=>none
   | _=>bi4 P d e n cs
  | _=>match cs with
   | .agg _::_ | .tuple _::_ | []=>none
   | x::r=>some ([.v x],r)
def bkf(P:Program):Nat→List Field→List Value→Option (List AVal×List Value)
 | 0,_,_=>none
 | _+1,[],cs=>some ([],cs)
 | d+1,f::fs,cs=>match comps P d f.type cs with
  | some (a,cs)=>match bkf P d fs cs with
   | some (b,cs)=>some (tq a b,cs)
   | none=>none
  | none=>none
def bi4(P:Program):Nat→TypeId→Nat→List Value→Option (List AVal×List Value)
 | 0,_,_,_=>none
 | _+1,_,0,cs=>some ([],cs)
 | d+1,e,n+1,cs=>match comps P d e cs with
  | some (a,cs)=>match bi4 P d e n cs with
   | some (b,cs)=>some (tq a b,cs)
   | none=>none
  | none=>none
end
def agy(P:Program)(t:TypeId):Option (List AVal) :=
 match P.info? t with
 | some i=>match i.zero with
  | some z=>match comps P 24 t z.cells.toList with
   | some (l,[])=>some l
   | _=>none
  | none=>none
 | none=>none
def awy:List AVal→Option (List Value)
 | []=>some []
 | .v (.agg _)::_ | .v (.tuple _)::_=>none
 | .v x::r=>match awy r with
  | some l=>some (x::l)
  | none=>none
 | _::_=>none
def bgy(P:Program)(t:TypeId)(l:List AVal):List AVal :=
 match awy l with
 | some cs=>match comps P 24 t cs with
  | some (l',[])=>l'
  | _=>l
 | none=>l
def arv:Op→List Operand
 | .move x | .assign x | .box _ x | .load _ x | .sliceToArrayPointer _ x | .nilCheck x | .unOp _ _ x | .convert _ _ x | .makeInterface _ x
 | .fieldAddr _ x _ | .field _ x _ | .typeAssert x _ _ _ | .extract x _=>[x]
 | .pick c a b=>[c,a,b]
 | .build _ ps | .buildSlice _ _ ps=>ps.toList.map (·.2)
 | .store _ a v | .binOp _ _ a v _ | .makeSlice _ a v | .indexAddr _ a v | .index _ a v=>[a,v]
 | .makeFunc _ first captured=>tq first.toList captured.toList
 | .slice _ x l h m=>x::tq l.toList (tq h.toList m.toList)
 | .call { callee:=.value f,args,.. }=>f::args.toList
 | .call { callee:=.invoke f _,args,.. }=>f::args.toList
 | .call { callee:=.builtin _,args,.. }=>args.toList
 | _=>[]
def ev(f:List (Nat×AVal)):Operand→AVal
 | .tmp t=>look f t
 | .const v=>.v v
 | .global g=>.glob g 0
 | .func g=>.fn (.func g) [] []
def evs(f:List (Nat×AVal)):List Operand→List AVal
 | []=>[]
 | x::r=>ev f x::evs f r
structure Eff where
 val:AVal
 puts:Hp
 n:Nat
def b3o(m:Nat)(dst:Option Nat)(a:AVal)(f:List (Nat×AVal)):List (Nat×AVal) :=
 match dst with
 | none=>f
 | some t=>bif Ae t m then (t,a)::f else f
def ASt.put(st:ASt)(dst:Option Nat)(a:AVal):ASt:={ st with f:=b3o st.m dst a st.f }
def ASt.app(st:ASt)(e:Eff)(dst:Option Nat):ASt :=
 { f:=b3o st.m dst e.val st.f,h:=tq e.puts st.h,n:=e.n,m:=st.m }
def anj(hl:Nat→Option Blk):AVal→Option Cont
 | .sl c=>some c
 | .own id=>match hl id with
  | some ⟨.row _ c,_⟩=>some c
  | _=>none
 | .win id off len=>match hl id with
  | some ⟨.row _ (.ints k l),_⟩=>some (.ints k ((l.drop off).take len))
  | some ⟨.row _ (.rows k l),_⟩=>some (.rows k ((l.drop off).take len))
  | some ⟨.row _ (.rows2 k l),_⟩=>some (.rows2 k ((l.drop off).take len))
  | _=>none
 | .awin id off m lo len=>match hl id with
  | some ⟨.box _ cs,_⟩=>match ab3 cs off with
   | some (_,.arr k m' l::_)=>bif Aa m m' then some (.ints k ((l.drop lo).take len)) else none
   | _=>none
  | _=>none
 | _=>none
def byw(hl:Nat→Option Blk):AVal→Option Nat
 | .sl c=>some c.len
 | .own id=>match hl id with
  | some ⟨.row _ c,_⟩=>some c.len
  | _=>none
 | .win _ _ len=>some len
 | .awin _ _ _ _ len=>some len
 | .v (.slice none 0 0)=>some 0
 | _=>none
def kOk(k k':IntKind)(x:Option R):Option R:=bif aw1 k k' then x else none
def cii(op:BinOp)(x y:AVal)(K:AVal→Option R):Option R :=
 match op,x,y with
 | .shl,.v (.int k a),.v (.int _ b)=>br (decide (b<0)) none (K (.v (.int k (k.wrap (a*2^min b.toNat k.bits)))))
 | .shr,.v (.int k a),.v (.int _ b)=>br (decide (b<0)) none (K (.v (.int k (a.fdiv (2^min b.toNat k.bits)))))
 | .add,.v (.int k a),.v (.int k' b)=>kOk k k' (K (.v (.int k (k.wrap (a+b)))))
 | .sub,.v (.int k a),.v (.int k' b)=>kOk k k' (K (.v (.int k (k.wrap (a-b)))))
 | .mul,.v (.int k a),.v (.int k' b)=>kOk k k' (K (.v (.int k (k.wrap (a*b)))))
 | .quo,.v (.int k a),.v (.int k' b)=>kOk k k' (br (decide (b=0)) none (K (.v (.int k (k.wrap (a.tdiv b))))))
 | .rem,.v (.int k a),.v (.int k' b)=>kOk k k' (br (decide (b=0)) none (K (.v (.int k (a.tmod b)))))
 | .and,.v (.int k a),.v (.int k' b)=>kOk k k' (K (.v (.int k (bits .and k a b))))
 | .or,.v (.int k a),.v (.int k' b)=>kOk k k' (K (.v (.int k (bits .or k a b))))
 | .xor,.v (.int k a),.v (.int k' b)=>kOk k k' (K (.v (.int k (bits .xor k a b))))
 | .andNot,.v (.int k a),.v (.int k' b)=>kOk k k' (K (.v (.int k (bits .andNot k a b))))
 | .eql,.v (.int k a),.v (.int k' b)=>kOk k k' (K (.v (.bool (a==b))))
 | .neq,.v (.int k a),.v (.int k' b)=>kOk k k' (K (.v (.bool (a !=b))))
 | .lss,.v (.int k a),.v (.int k' b)=>kOk k k' (K (.v (.bool (decide (a<b)))))
 | .leq,.v (.int k a),.v (.int k' b)=>kOk k k' (K (.v (.bool (decide (a≤b)))))
 | .gtr,.v (.int k a),.v (.int k' b)=>kOk k k' (K (.v (.bool (decide (a>b)))))
 | .geq,.v (.int k a),.v (.int k' b)=>kOk k k' (K (.v (.bool (decide (a≥b)))))
 | _,_,_=>none
mutual
def bnd(n:Nat):AVal→Bool
 | .own j | .win j _ _ | .awin j _ _ _ _ | .ptr j _ | .pel j _ _ | .apel j _ _ _ | .fel j _ _ _=>Ae j n
 | .agg l | .sta l | .tuple l | .osta _ l=>ax3 n l
 | .fn _ a b=>ax3 n a&&ax3 n b
 | .iface _ x=>bnd n x
 | .yld j _ l=>Ae j n&&ax3 n l
 | .alt _ _ a b _ c d=>(ax3 n a&&ax3 n b)&&(ax3 n c&&ax3 n d)
 | _=>true
def ax3(n:Nat):List AVal→Bool
 | []=>true
 | a::r=>bnd n a&&ax3 n r
end
mutual
def aap(hl:Nat→Option Blk):AVal→AVal
 | .own id=>match anj hl (.own id) with
  | some c=>.sl c
  | none=>.bot
 | .win id off len=>match anj hl (.win id off len) with
  | some c=>.sl c
  | none=>.bot
 | .awin id off m lo len=>match anj hl (.awin id off m lo len) with
  | some c=>.sl c
  | none=>.bot
 | .ptr .. | .pel .. | .apel .. | .fel .. | .glob .. | .gel .. | .fr _ _ | .yld ..=>.bot
 | .sta l=>bif ax3 0 l then .sta l else .bot
 | .osta t l=>bif ax3 0 l then .osta t l else .bot
 | .alt t f a b g c d=>.alt t f (ah0 hl a) (ah0 hl b) g (ah0 hl c) (ah0 hl d)
 | .agg l=>.agg (ah0 hl l)
 | .tuple l=>.tuple (ah0 hl l)
 | .fn f a b=>.fn f (ah0 hl a) (ah0 hl b)
 | .iface t x=>.iface t (aap hl x)
 | a=>a
def ah0(hl:Nat→Option Blk):List AVal→List AVal
 | []=>[]
 | a::r=>aap hl a::ah0 hl r
end
def bo0(c:Cont)(y:AVal):AVal→AVal
 | .v (.slice none 0 0)=>bif Aa c.len 0 then y else .v (.slice none 0 0)
 | a=>a
def bkw:Fn→Fn→Bool
 | .func a,.func b=>Aa a b
 | _,_=>false
def bfz(f:Fn)(fa fc:List AVal)(g:Fn)(ga gc:List AVal):AVal→AVal
 | .fn h a c=>bif bkw h f then .alt 1 f a c g ga gc else bif bkw h g then .alt 2 f fa fc g a c else .fn h a c
 | .v .nilFunc=>.alt 0 f fa fc g ga gc
 | a=>a
mutual
def arx:Sh→AVal→AVal
 | .sl c,a=>bo0 c (.sl c) a
 | .agg ss,.agg l=>.agg (j5 ss l)
 | .agg ss,.sta l=>.sta (j5 ss l)
 | .agg ss,.fn f a c=>.fn f a (j5 ss c)
 | .alt f fa fc g ga gc,a=>bfz f fa fc g ga gc a
 | _,a=>a
def j5:List Sh→List AVal→List AVal
 | s::ss,a::r=>arx s a::j5 ss r
 | _,l=>l
end
mutual
def shares:AVal→Bool
 | .v _ | .bot | .arr .. | .fr _ (.ints ..)=>false
 | .agg l | .tuple l=>az9 l
 | _=>true
def az9:List AVal→Bool
 | []=>false
 | a::r=>shares a||az9 r
end
mutual
def imp:AVal→Nat→Hp→AVal×Nat×Hp
 | .fr e c,n,h=>(.own n,n+1,(n,some ⟨.row e c,false⟩)::h)
 | .agg l,n,h=>match auk l n h with | (l,n,h)=>(.agg l,n,h)
 | .tuple l,n,h=>match auk l n h with | (l,n,h)=>(.tuple l,n,h)
 | a,n,h=>(a,n,h)
def auk:List AVal→Nat→Hp→List AVal×Nat×Hp
 | [],n,h=>([],n,h)
 | a::r,n,h=>match imp a n h with
  | (a,n,h)=>match auk r n h with
   | (r,n,h)=>(a::r,n,h)
end
def bdt(x:Nat):List Nat→Bool
 | []=>false
 | y::r=>Aa x y||bdt x r
def freeze(hl:Nat→Option Blk):List Nat→Hp→Hp
 | [],h=>h
 | id::r,h=>match hl id with
  | some b=>(id,some ⟨b.b,true⟩)::freeze hl r h
  | none=>freeze hl r h
def bz9(s:Spec)(args:List AVal)(hl:Nat→Option Blk)(n:Nat)(K:Eff→Option R):Option R :=
 s (ah0 hl args) fun a =>
  match imp a n (bif shares a then freeze hl (ru args) [] else []) with
  | (a,n,h)=>K ⟨a,h,n⟩
def limit:Nat:=140737488355328
def aut(P:Program)(e:TypeId)(n:Nat):Option Cont :=
 match P.info? e with
 | some i=>bif Aa i.size 1 then
     match i.zero with
     | some (.int k (.ofNat 0))=>some (.ints k (Ak n 0))
     | some (.slice none 0 0)=>match P.underlying e with
      | some (.slice f)=>match P.underlying f with
       | some (.int k)=>some (.rows k (Ak n []))
       | some (.slice g)=>match P.underlying g with
        | some (.int k)=>some (.rows2 k (Ak n []))
        | _=>none
       | _=>none
      | _=>none
     | _=>none
  else none
 | none=>none
def aza(k:IntKind):List AVal→Option (List Int)
 | []=>some []
 | .v (.int k' x)::r=>bif aw1 k k' then
     match aza k r with
     | some l=>some (x::l)
     | none=>none
  else none
 | _=>none
def rowsOf(hl:Nat→Option Blk)(k:IntKind):List AVal→Option (List (List Int))
 | []=>some []
 | a::r=>match anj hl a with
  | some (.ints k' x)=>bif aw1 k k' then
      match rowsOf hl k r with
      | some l=>some (x::l)
      | none=>none
   else none
  | _=>match a with
   | .v (.slice none 0 0)=>match rowsOf hl k r with
    | some l=>some ([]::l)
    | none=>none
   | _=>none
def bal(hl:Nat→Option Blk)(k:IntKind):List AVal→Option (List (List (List Int)))
 | []=>some []
 | a::r=>match anj hl a with
  | some (.rows k' x)=>bif aw1 k k' then
      match bal hl k r with
      | some l=>some (x::l)
      | none=>none
   else none
  | _=>none
def bbo(P:Program)(hl:Nat→Option Blk)(e:TypeId)(vs:List AVal):Option Cont :=
 match P.underlying e with
 | some (.int k)=>match aza k vs with
  | some l=>some (.ints k l)
  | none=>none
 | some (.slice f)=>match P.underlying f with
  | some (.int k)=>match rowsOf hl k vs with
   | some l=>some (.rows k l)
   | none=>none
  | some (.slice g)=>match P.underlying g with
   | some (.int k)=>match bal hl k vs with
    | some l=>some (.rows2 k l)
    | none=>none
   | _=>none
  | _=>none
 | _=>none
def bsd(P:Program)(e:TypeId):Bool :=
 match P.info? e with
 | some i=>Aa i.size 1&&i.zero.isSome
 | none=>false
def af4:Nat→List (Nat×Operand)→Bool
 | _,[]=>true
 | i,(j,_)::r=>Aa i j&&af4 (i+1) r
def ayo(i:Int):Nat→Nat→(Nat→Option R)→Option R
 | 0,_,_=>none
 | n+1,j,K=>br (decide (i=(j:Int))) (K j) (ayo i n (j+1) K)
def b6x:Option Operand→List AVal→Option (Option Int×List AVal)
 | none,l=>some (none,l)
 | some _,.v (.int _ i)::r=>some (some i,r)
 | _,_=>none
def Cont.sub(l h:Nat):Cont→Option Cont
 | .ints k z=>some (.ints k ((z.take h).drop l))
 | .rows k z=>some (.rows k ((z.take h).drop l))
 | .rows2 k z=>some (.rows2 k ((z.take h).drop l))
 | .cols ..=>none
def b2d(hl:Nat→Option Blk)(x:AVal)(sz:Nat)(l h:Int)(len:Nat)(n:Nat)(mx:Option Int)(K:Eff→Option R):Option R :=
 match mx with
 | none=>match x with
  | .sl c=>match c.sub l.toNat h.toNat with
   | some c=>bif Aa sz 1 then K ⟨.sl c,[],n⟩ else none
   | none=>none
  | .own id=>bif Aa sz 1 then K ⟨.win id l.toNat (h-l).toNat,[],n⟩ else
      match l with
      | .ofNat 0=>K ⟨.win id 0 h.toNat,[],n⟩
      | _=>none
  | .win id off _=>match hl id with
   | some ⟨.row _ _,_⟩=>bif Aa sz 1 then K ⟨.win id (off+l.toNat) (h-l).toNat,[],n⟩ else none
   | _=>none
  | .awin id off m lo _=>bif Aa sz 1 then K ⟨.awin id off m (lo+l.toNat) (h-l).toNat,[],n⟩ else none
  | .v (.slice none 0 0)=>K ⟨.v (.slice none 0 0),[],n⟩
  | _=>none
 | some m=>bif Aa sz 1 then br (decide (h≤m)) (br (decide (m≤(len:Int))) (match anj hl x with
  | some c=>match c.sub l.toNat h.toNat with
   | some c=>K ⟨.sl c,freeze hl (xg x) [],n⟩
   | none=>none
  | none=>none) none) none else none
def cpr(mid:List AVal)(n:Nat)(K:Eff→Option R):Option R :=
 match mid with
 | [.arr ..]=>none
 | [a]=>K ⟨a,[],n⟩
 | _=>none
def bwc(g:Bool)(mid:List AVal)(n:Nat)(K:Eff→Option R):Option R :=
 bif g then K ⟨bdu mid,[],n⟩ else cpr mid n K
def bid:List AVal→Nat→AVal
 | [],_=>.bot
 | a::_,0=>a
 | _::r,n+1=>bid r n
def placeOf(D:Ctx)(hl:Nat→Option Blk)(x:AVal)(sz:Nat):Option (List AVal) :=
 match x with
 | .sta l=>match ab3 l sz with
  | some (mid,[])=>some mid
  | _=>none
 | .ptr id off=>match hl id with
  | some ⟨.box _ l,_⟩=>match bn4 l off sz with
   | some (_,mid,_)=>some mid
   | none=>none
  | _=>none
 | .glob gl off=>match assoc D.globs gl with
  | some l=>match bn4 l off sz with
   | some (_,mid,_)=>some mid
   | none=>none
  | none=>none
 | .pel id s i=>match hl id with
  | some ⟨.row _ c,_⟩=>bif Aa s c.size&&Aa s sz then some (c.elem i) else none
  | _=>none
 | .fel id s i o=>match hl id with
  | some ⟨.row _ c,_⟩=>bif Aa s c.size&&Aa 1 sz then some [bid (c.elem i) o] else none
  | _=>none
 | .apel id off m i=>match hl id with
  | some ⟨.box _ l,_⟩=>match ab3 l off with
   | some (_,.arr k m' z::_)=>bif Aa m m'&&Aa sz 1 then some [.v (.int k (z.getD i 0))] else none
   | _=>none
  | _=>none
 | .gel gl off m i=>match assoc D.globs gl with
  | some l=>match ab3 l off with
   | some (_,.arr k m' z::_)=>bif Aa m m'&&Aa sz 1 then some [.v (.int k (z.getD i 0))] else none
   | _=>none
  | none=>none
 | _=>none
def bqk(D:Ctx)(t:TypeId)(x:AVal)(hl:Nat→Option Blk)(n:Nat)(K:Eff→Option R):Option R :=
 match ahb D.P t,oo D.P t with
 | some g,some sz=>match placeOf D hl x sz with
  | some mid=>bwc g mid n K
  | none=>none
 | _,_=>none
def bst(P:Program)(t:TypeId):Option Nat :=
 match P.underlying t with
 | some (.array n _)=>match ahb P t,oo P t with
  | some true,some s=>bif Aa n s then some n else none
  | _,_=>none
 | _=>none
def b4q(D:Ctx)(t:TypeId)(x:AVal)(hl:Nat→Option Blk)(n:Nat)(K:Eff→Option R):Option R :=
 match x with
 | .osta q l=>br (decide (q=1)) (bqk D t (.sta l) hl n K) none
 | .apel id off m i=>match bst D.P t with
  | some len=>match hl id with
   | some ⟨.box _ l,_⟩=>match ab3 l off with
    | some (_,.arr k m' z::_)=>bif Aa m m' then br (decide (i+len≤m)) (K ⟨.arr k len ((z.drop i).take len),[],n⟩) none else none
    | _=>none
   | _=>none
  | none=>bqk D t (.apel id off m i) hl n K
 | .gel gl off m i=>match bst D.P t with
  | some len=>match assoc D.globs gl with
   | some l=>match ab3 l off with
    | some (_,.arr k m' z::_)=>bif Aa m m' then br (decide (i+len≤m)) (K ⟨.arr k len ((z.drop i).take len),[],n⟩) none else none
    | _=>none
   | none=>none
  | none=>bqk D t (.gel gl off m i) hl n K
 | x=>bqk D t x hl n K
def bwa(D:Ctx)(t:TypeId)(x y:AVal)(hl:Nat→Option Blk)(n:Nat)(K:Eff→Option R):Option R :=
 match oo D.P t with
 | some sz=>match x with
  | .ptr id off=>match hl id,partsOf y with
   | some ⟨.box e l,false⟩,some p=>match bn4 l off sz,ab3 p sz with
    | some (pre,_,post),some (p,[])=>K ⟨.bot,[(id,some ⟨.box e (tq pre (tq p post)),false⟩)],n⟩
    | _,_=>none
   | _,_=>none
  | .pel id s i=>match hl id with
   | some ⟨.row e c,false⟩=>bif Aa s 1&&Aa sz 1 && !bdt id (xg y) then
       match c.set i (aap hl y) with
       | some c=>K ⟨.bot,(id,some ⟨.row e c,false⟩)::freeze hl (xg y) [],n⟩
       | none=>none
    else none
   | _=>none
  | .apel id off m i=>match hl id,y with
   | some ⟨.box e l,false⟩,.v (.int k' a)=>match ab3 l off with
    | some (pre,.arr k m' z::post)=>bif Aa m m'&&Aa sz 1 then kOk k k' (K ⟨.bot,[(id,some ⟨.box e (tq pre (.arr k m' (z.set i a)::post)),false⟩)],n⟩) else none
    | _=>none
   | _,_=>none
  | _=>none
 | none=>none
def bbf(D:Ctx)(s:TypeId)(x:AVal)(f:Nat)(n:Nat)(K:Eff→Option R):Option R :=
 match D.P.underlying s with
 | some (.struct fs)=>match fs[f]? with
  | some fd=>match oo D.P fd.type with
   | some (sz+1)=>match x with
    | .ptr id off=>K ⟨.ptr id (off+fd.offset),[],n⟩
    | .glob g off=>K ⟨.glob g (off+fd.offset),[],n⟩
    | .sta l=>match bn4 l fd.offset (sz+1) with
     | some (_,mid,_)=>K ⟨.sta mid,[],n⟩
     | none=>none
    | .pel id s i=>bif Ae fd.offset s then K ⟨.fel id s i fd.offset,[],n⟩ else none
    | _=>none
   | _=>none
  | none=>none
 | _=>none
def bvc(D:Ctx)(s:TypeId)(l:List AVal)(f:Nat)(n:Nat)(K:Eff→Option R):Option R :=
 match D.P.underlying s with
 | some (.struct fs)=>match fs[f]? with
  | some fd=>match ahb D.P fd.type,oo D.P fd.type with
   | some g,some sz=>match bn4 l fd.offset sz with
    | some (_,mid,_)=>bwc g mid n K
    | none=>none
   | _,_=>none
  | none=>none
 | _=>none
def within(i:Int)(len:Nat)(x:Option R):Option R:=br (decide (0≤i)) (br (decide (i<(len:Int))) x none) none
def btq(x:AVal)(i:Int)(sz:Nat)(hl:Nat→Option Blk)(n:Nat)(K:Eff→Option R):Option R :=
 match x with
 | .sl c=>bif Aa c.size sz then within i c.len (K ⟨.sta (c.elem i.toNat),[],n⟩) else none
 | .own id=>match hl id with
  | some ⟨.row _ c,_⟩=>within i c.len (K ⟨.pel id sz i.toNat,[],n⟩)
  | _=>none
 | .win id off len=>match hl id with
  | some ⟨.row _ _,_⟩=>bif Aa sz 1 then within i len (K ⟨.pel id 1 (off+i.toNat),[],n⟩) else none
  | _=>none
 | .awin id off m lo len=>bif Aa sz 1 then within i len (K ⟨.apel id off m (lo+i.toNat),[],n⟩) else none
 | _=>none
def bsf(D:Ctx)(x:AVal)(i:Int)(m sz:Nat)(hl:Nat→Option Blk)(n:Nat)(K:Eff→Option R):Option R :=
 match x with
 | .ptr id off=>match hl id with
  | some ⟨.box _ l,_⟩=>match ab3 l off with
   | some (_,.arr _ m' _::_)=>bif Aa m m'&&Aa sz 1 then within i m (K ⟨.apel id off m i.toNat,[],n⟩) else ayo i m 0 fun j=>K ⟨.ptr id (off+j*sz),[],n⟩
   | some _=>ayo i m 0 fun j=>K ⟨.ptr id (off+j*sz),[],n⟩
   | none=>none
  | _=>none
 | .glob g off=>match assoc D.globs g with
  | some l=>match ab3 l off with
   | some (_,.arr _ m' _::_)=>bif Aa m m'&&Aa sz 1 then within i m (K ⟨.gel g off m i.toNat,[],n⟩) else
       bif Aa (m*sz) m'&&Ae 0 sz then within i m (K ⟨.gel g off m' (i.toNat*sz),[],n⟩) else ayo i m 0 fun j=>K ⟨.glob g (off+j*sz),[],n⟩
   | some _=>ayo i m 0 fun j=>K ⟨.glob g (off+j*sz),[],n⟩
   | none=>none
  | none=>none
 | .gel g off m' j=>bif Aa sz 1 then within i m (br (decide (j+i.toNat<m')) (K ⟨.gel g off m' (j+i.toNat),[],n⟩) none) else none
 | _=>none
def bam(D:Ctx)(t:TypeId)(x:AVal)(i:Int)(hl:Nat→Option Blk)(n:Nat)(K:Eff→Option R):Option R :=
 match D.P.underlying t with
 | some (.slice e)=>match oo D.P e with
  | some sz=>btq x i sz hl n K
  | none=>none
 | some (.array m e)=>match oo D.P e with
  | some sz=>bsf D x i m sz hl n K
  | none=>none
 | _=>none
def bx6(D:Ctx)(t:TypeId)(x:AVal)(i:Int)(n:Nat)(K:Eff→Option R):Option R :=
 match D.P.underlying t with
 | some (.array m e)=>match oo D.P e,ahb D.P e with
  | some sz,some g=>match x with
   | .arr k m' l=>bif Aa m m'&&Aa sz 1 && !g then within i m (K ⟨.v (.int k (l.getD i.toNat 0)),[],n⟩) else none
   | .agg l=>ayo i m 0 fun j=>match bn4 l (j*sz) sz with
    | some (_,mid,_)=>bwc g mid n K
    | none=>none
   | _=>none
  | _,_=>none
 | _=>none
def baf(D:Ctx)(t:TypeId)(l c:Int)(n:Nat)(K:Eff→Option R):Option R :=
 match D.P.underlying t with
 | some (.slice e)=>match br0 D.P e with
  | some (by_+1)=>match aut D.P e l.toNat with
   | some ct=>br (decide (0≤l)) (br (decide (l≤c)) (br (decide (c*((by_+1:Nat):Int)≤(limit:Int))) (K ⟨.own n,[(n,some ⟨.row e ct,false⟩)],n+1⟩) none) none) none
   | none=>none
  | _=>none
 | _=>none
def av4(D:Ctx)(t:TypeId)(len:Nat)(ps:Array (Nat×Operand))(vs:List AVal)(hl:Nat→Option Blk)(n:Nat)(K:Eff→Option R):Option R :=
 match D.P.underlying t with
 | some (.slice e) =>
  bif af4 0 ps.toList&&Aa len ps.size&&Nat.ble len 16777216&&bsd D.P e then
   match bbo D.P hl e vs with
   | some c=>K ⟨.own n,(n,some ⟨.row e c,false⟩)::freeze hl (ru vs) [],n+1⟩
   | none=>none
  else none
 | _=>none
def bun:List AVal→Bool
 | []=>true
 | .arr ..::_=>false
 | _::r=>bun r
def aui(sz:Nat):List AVal→Option (List (List AVal))
 | []=>some []
 | v::r=>match partsOf v with
  | some p=>bif Aa p.length sz&&bun p then
      match aui sz r with
      | some l=>some (p::l)
      | none=>none
   else none
  | none=>none
def bmu(j:Nat):List (List AVal)→List AVal
 | []=>[]
 | p::r=>bid p j::bmu j r
def bj6(P:Program)(hl:Nat→Option Blk)(rows:List (List AVal)):Nat→List Field→Option (List Cont)
 | _,[]=>some []
 | j,t::ts=>match bbo P hl t.type (bmu j rows) with
  | some c=>match bj6 P hl rows (j+1) ts with
   | some cs=>some (c::cs)
   | none=>none
  | none=>none
def bso(D:Ctx)(t:TypeId)(len:Nat)(ps:Array (Nat×Operand))(vs:List AVal)(hl:Nat→Option Blk)(n:Nat)(K:Eff→Option R):Option R :=
 match D.P.underlying t with
 | some (.slice e)=>match D.P.info? e,D.P.underlying e with
  | some i,some (.struct fs) =>
   bif af4 0 ps.toList&&Aa len ps.size&&Nat.ble (len*i.size) 16777216&&Aa fs.size i.size&&Ae 0 i.size&&i.zero.isSome then
    match aui i.size vs with
    | some rows=>match bj6 D.P hl rows 0 fs.toList with
     | some cs=>K ⟨.own n,(n,some ⟨.row e (.cols len cs),false⟩)::freeze hl (ru vs) [],n+1⟩
     | none=>none
    | none=>none
   else none
  | _,_=>none
 | _=>none
def b6p(P:Program)(t:TypeId):Bool :=
 match P.underlying t with
 | some (.slice e)=>match P.underlying e with
  | some (.struct _)=>true
  | _=>false
 | _=>false
def ax2(D:Ctx)(t:TypeId)(len:Nat)(ps:Array (Nat×Operand))(vs:List AVal)(hl:Nat→Option Blk)(n:Nat)(K:Eff→Option R):Option R :=
 bif b6p D.P t then bso D t len ps vs hl n K else av4 D t len ps vs hl n K
def b3r(hl:Nat→Option Blk)(e:TypeId)(s:AVal):Option (Option Cont×Hp) :=
 match s with
 | .v (.slice none 0 0)=>some (none,[])
 | .own id=>match hl id with
  | some ⟨.row e' c,false⟩=>bif Aa e e' then some (some c,[(id,none)]) else none
  | _=>none
 | .win id 0 len=>match hl id with
  | some ⟨.row e' c,false⟩=>bif Aa e e' then some (some (c.take len),[(id,none)]) else none
  | _=>none
 | _=>none
def bmj(i:TypeInfo):Bool :=
 match i.zero with
 | some z=>Aa z.cells.size i.size
 | none=>false
def brb(D:Ctx)(t:TypeId)(s x:AVal)(hl:Nat→Option Blk)(n:Nat)(K:Eff→Option R):Option R :=
 match D.P.underlying t with
 | some (.slice e)=>match D.P.info? e with
  | some i=>bif Ae 0 i.size&&Ae 0 i.bytes&&bmj i then
      match b3r hl e s,anj hl x with
      | some (some c,dead),some cx=>match c.app cx with
       | some c'=>bif Aa c.size i.size then br (decide ((c.len+cx.len)*i.bytes≤limit)) (K ⟨.own n,(n,some ⟨.row e c',false⟩)::dead,n+1⟩) none else none
       | none=>none
      | some (none,dead),some cx=>bif Aa cx.size i.size then br (decide (cx.len*i.bytes≤limit)) (K ⟨.own n,(n,some ⟨.row e cx,false⟩)::dead,n+1⟩) none else none
      | _,_=>none
   else none
  | none=>none
 | _=>none
def bls(D:Ctx)(t:TypeId)(x:AVal)(lo hi mx:Option Int)(hl:Nat→Option Blk)(n:Nat)(K:Eff→Option R):Option R :=
 match D.P.underlying t with
 | some (.slice e)=>match oo D.P e,byw hl x with
  | some sz,some len =>
   match lo,hi,mx with
   | none,none,none=>K ⟨x,[],n⟩
   | _,none,some _=>none
   | _,_,_ =>
    br (decide (0≤lo.getD 0)) (br (decide (lo.getD 0≤hi.getD (len:Int))) (br (decide (hi.getD (len:Int)≤(len:Int)))
     (b2d hl x sz (lo.getD 0) (hi.getD (len:Int)) len n mx K) none) none) none
  | _,_=>none
 | some (.array m e)=>match oo D.P e,x,mx with
  | some sz,.ptr id off,none =>
   bif Aa sz 1 then
    br (decide (0≤lo.getD 0)) (br (decide (lo.getD 0≤hi.getD (m:Int))) (br (decide (hi.getD (m:Int)≤(m:Int)))
     (K ⟨.awin id off m (lo.getD 0).toNat (hi.getD (m:Int)-lo.getD 0).toNat,[],n⟩) none) none) none
   else none
  | _,_,_=>none
 | _=>none
def b1y(D:Ctx)(t:TypeId)(x:AVal)(hl:Nat→Option Blk)(n:Nat)(K:Eff→Option R):Option R :=
 match D.P.underlying t with
 | some (.slice _)=>match byw hl x with
  | some m=>K ⟨.v (.int .i64 (m:Int)),[],n⟩
  | none=>none
 | _=>none
def bbu(P:Program)(t:TypeId):Bool :=
 match P.underlying t with
 | some (.int _)=>true
 | _=>false
def b2n(P:Program)(t:TypeId):Bool :=
 match oo P t with
 | some s=>Aa s 1
 | none=>false
def bl3(D:Ctx)(t t':TypeId)(s:AVal)(z:Int)(hl:Nat→Option Blk)(n:Nat)(K:Eff→Option R):Option R :=
 match D.P.underlying t with
 | some (.slice e)=>bif bbu D.P t' then
     match D.P.info? e with
     | some i=>bif Ae 0 i.bytes then
         match b3r hl e s,aut D.P e z.toNat with
         | some (some c,dead),some cz=>match c.app cz with
          | some c'=>br (decide (0≤z)) (br (decide ((c.len+z.toNat)*i.bytes≤limit)) (K ⟨.own n,(n,some ⟨.row e c',false⟩)::dead,n+1⟩) none) none
          | none=>none
         | some (none,dead),some cz=>br (decide (0≤z)) (br (decide (z.toNat*i.bytes≤limit)) (K ⟨.own n,(n,some ⟨.row e cz,false⟩)::dead,n+1⟩) none) none
         | _,_=>none
      else none
     | none=>none
  else none
 | _=>none
def chd(D:Ctx)(t:TypeId)(x:AVal)(n:Nat)(K:Eff→Option R):Option R :=
 match D.P.underlying t,x with
 | some (.slice _),.v (.slice none 0 0)=>K ⟨.v (.int .i64 0),[],n⟩
 | _,_=>none
def brd(P:Program)(t:TypeId):Bool :=
 match P.underlying t with
 | some .bool=>true
 | _=>false
def b1m(P:Program)(cs cs':List Value):List Field→Option Bool
 | []=>some true
 | f :: fs => bif bbu P f.type && !(f.name == "_") then
     match cs[f.offset]?,cs'[f.offset]? with
     | some (.int k a),some (.int k' b)=>bif aw1 k k' then
         match b1m P cs cs' fs with
         | some r=>some ((a==b)&&r)
         | none=>none
      else none
     | _,_=>none
  else bif brd P f.type && !(f.name == "_") then
   match cs[f.offset]?,cs'[f.offset]? with
   | some (.bool a),some (.bool b)=>match b1m P cs cs' fs with
    | some r=>some ((a==b)&&r)
    | none=>none
   | _,_=>none
  else none
def eqX(D:Ctx)(t:TypeId)(x y:AVal)(hl:Nat→Option Blk)(K:Bool→Option R):Option R :=
 match D.P.underlying t with
 | some .bool=>match x,y with
  | .v (.bool a),.v (.bool b)=>K (a==b)
  | _,_=>none
 | some (.slice _)=>match x,y with
  | .v (.slice none 0 0),.v (.slice none 0 0)=>K true
  | x,.v (.slice none 0 0)=>match anj hl x with
   | some c=>br (decide (0<c.len)) (K false) none
   | none=>none
  | _,_=>none
 | some (.pointer _)=>match x,y with
  | .osta q _,.v (.pointer none)=>K (decide (q=0))
  | .v (.pointer none),.v (.pointer none)=>K true
  | .ptr _ _,.v (.pointer none)=>K false
  | .sta _,.v (.pointer none)=>K false
  | _,_=>none
 | some (.array m e)=>match x,y with
  | .arr k n l,.arr k' n' l'=>bif bbu D.P e&&b2n D.P e&&aw1 k k'&&Aa n m&&Aa n' m && !D.P.eqGuardType D.P.depth t then K (decide (l=l')) else none
  | _,_=>none
 | some (.struct fs)=>match x,y with
  | .agg l,.agg l'=>bif !D.P.stoodInHeld t && !D.P.eqGuardType D.P.depth t then
      match awy l,awy l' with
      | some cs,some cs'=>match b1m D.P cs cs' fs.toList with
       | some b=>K b
       | none=>none
      | _,_=>none
   else none
  | _,_=>none
 | _=>none
def co0(D:Ctx)(op:BinOp)(t:TypeId)(x y:AVal)(hl:Nat→Option Blk)(n:Nat)(K:Eff→Option R):Option R :=
 match x,y with
 | .v (.int k a),.v (.int k' b)=>cii op (.v (.int k a)) (.v (.int k' b)) fun a=>K ⟨a,[],n⟩
 | x,y=>match op with
  | .eql=>eqX D t x y hl fun b=>K ⟨.v (.bool b),[],n⟩
  | .neq=>eqX D t x y hl fun b=>K ⟨.v (.bool !b),[],n⟩
  | _=>none
def buc(place:Nat→Option (Nat×Nat)):List AVal→List (Nat×Operand)→List AVal→Option (List AVal)
 | l,[],[]=>some l
 | l,(i,_)::ps,v::vs=>match place i with
  | none=>none
  | some (off,sz)=>match bn4 l off sz,partsOf v with
   | some (pre,_,post),some p=>match ab3 p sz with
    | some (p,[])=>buc place (tq pre (tq p post)) ps vs
    | _=>none
   | _,_=>none
 | _,_,_=>none
def bq3(P:Program)(fs:Array Field)(i:Nat):Option (Nat×Nat) :=
 match fs[i]? with
 | some f=>match oo P f.type with
  | some s=>some (f.offset,s)
  | none=>none
 | none=>none
def byj(P:Program)(t:TypeId)(m:Nat):Bool :=
 match agy P t with
 | some [.arr _ n _]=>Aa n m
 | _=>false
def bdl:List (Nat×Operand)→List Int→List Int→Option (List Int)
 | [],[],z=>some z
 | (i,_)::r,v::vs,z=>bif Ae i z.length then bdl r vs (z.set i v) else none
 | _,_,_=>none
def bvj(D:Ctx)(t:TypeId)(ps:Array (Nat×Operand))(vs:List AVal)(n:Nat)(K:Eff→Option R):Option R :=
 match D.P.underlying t with
 | some (.struct fs)=>match agy D.P t with
  | some l=>bif !(fs.toList.all fun f=>(oo D.P f.type).isSome) then none else match buc (bq3 D.P fs) l ps.toList vs with
   | some l=>K ⟨bdu (bgy D.P t l),[],n⟩
   | none=>none
  | none=>none
 | some (.array m e)=>match D.P.underlying e with
  | some (.int k)=>match aza k vs with
   | some l=>bif af4 0 ps.toList&&Aa ps.size m&&Aa vs.length m&&byj D.P t m&&b2n D.P e then K ⟨.arr k m l,[],n⟩ else
       match ps.toList,agy D.P t,oo D.P e with
       | [],some l,some _=>K ⟨bdu l,[],n⟩
       | p::r,some [.arr k' m' z],some 1=>bif aw1 k k'&&Aa m' m then (match bdl (p::r) l z with
        | some z=>K ⟨.arr k m z,[],n⟩
        | none=>none) else none
       | _,_,_=>none
   | none=>none
  | _=>match agy D.P t,oo D.P e with
   | some l,some sz=>match buc (fun i=>some (i*sz,sz)) l ps.toList vs with
    | some l=>K ⟨bdu l,[],n⟩
    | none=>none
   | _,_=>none
 | _=>none
def cpy(z zs:List Int)(lo len:Nat):List Int:=z.take lo++(zs.take len++z.drop (lo+min len zs.length))
def b30(D:Ctx)(t:TypeId)(x y:AVal)(hl:Nat→Option Blk)(n:Nat)(K:Eff→Option R):Option R :=
 match D.P.underlying t with
 | some (.slice e)=>bif b2n D.P e then
     match anj hl y with
     | some (.ints k' zs)=>match x with
      | .awin id off m lo len=>match hl id with
       | some ⟨.box et l,false⟩=>match ab3 l off with
        | some (pre,.arr k m' z::post)=>bif Aa m m' then kOk k k' (K ⟨.v (.int .i64 ((min len zs.length:Nat):Int)),[(id,some ⟨.box et (tq pre (.arr k m (cpy z zs lo len)::post)),false⟩)],n⟩) else none
        | _=>none
       | _=>none
      | .own id=>match hl id with
       | some ⟨.row et (.ints k z),false⟩=>kOk k k' (K ⟨.v (.int .i64 ((min z.length zs.length:Nat):Int)),[(id,some ⟨.row et (.ints k (cpy z zs 0 z.length)),false⟩)],n⟩)
       | _=>none
      | .win id off len=>match hl id with
       | some ⟨.row et (.ints k z),false⟩=>kOk k k' (K ⟨.v (.int .i64 ((min len zs.length:Nat):Int)),[(id,some ⟨.row et (.ints k (cpy z zs off len)),false⟩)],n⟩)
       | _=>none
      | _=>none
     | _=>none
  else none
 | _=>none
def b33(D:Ctx)(c:Callee)(as:List Operand)(ts:List TypeId)(vs:List AVal)(hl:Nat→Option Blk)(n:Nat)(K:Eff→Option R):Option R :=
 match c,as,ts,vs with
 | .builtin .len,[_],t::_,[x]=>b1y D t x hl n K
 | .builtin .min,[_,_],_,[.v (.int k a),.v (.int _ b)]=>K ⟨.v (.int k (cond (decide (b<a)) b a)),[],n⟩
 | .builtin .max,[_,_],_,[.v (.int k a),.v (.int _ b)]=>K ⟨.v (.int k (cond (decide (b>a)) b a)),[],n⟩
 | .builtin .append,[_,_],[t,t'],[s,x]=>bif Aa t t' then brb D t s x hl n K else match x with
  | .v (.int _ z)=>bl3 D t t' s z hl n K
  | _=>none
 | .builtin .cap,[_],t::_,[x]=>chd D t x n K
 | .builtin .copy,[_,_],[t,_],[x,y]=>b30 D t x y hl n K
 | .value _,_,_,.fn (.func g) first caps::args=>match ay3 D.G g with
  | some s=>bz9 s (tq first (tq args caps)) hl n K
  | none=>none
 | .value _,_,_,.alt t (.func f) fa fc (.func g) ga gc::args=>match ay3 D.G f,ay3 D.G g with
  | some s,some s'=>br (decide (t=1)) (bz9 s (tq fa (tq args fc)) hl n K) (br (decide (t=2)) (bz9 s' (tq ga (tq args gc)) hl n K) none)
  | _,_=>none
 | _,_,_,_=>none
def btd(D:Ctx)(t:TypeId)(id:Nat)(hl:Nat→Option Blk)(n:Nat)(K:Eff→Option R):Option R :=
 match D.P.underlying t with
 | some (.slice e)=>match D.P.underlying e,hl id with
  | some (.int .u8),some ⟨.row _ (.ints k (a::l)),false⟩=>K ⟨.sl (.ints k (a::l)),[(id,none)],n⟩
  | _,_=>none
 | _=>none
def core(D:Ctx)(op:Op)(vs:List AVal)(hl:Nat→Option Blk)(n:Nat)(K:Eff→Option R):Option R :=
 match op,vs with
 | .move _,[x]=>K ⟨x,[],n⟩
 | .assign _,[x]=>K ⟨x,[],n⟩
 | .pick _ _ _,[.v (.bool t),a,b]=>br t (K ⟨a,[],n⟩) (K ⟨b,[],n⟩)
 | .alloc e,[]=>match agy D.P e with
  | some l=>K ⟨.ptr n 0,[(n,some ⟨.box e l,false⟩)],n+1⟩
  | none=>none
 | .box e _,[x]=>match partsOf x with
  | some l=>K ⟨.ptr n 0,[(n,some ⟨.box e (bgy D.P e l),false⟩)],n+1⟩
  | none=>none
 | .buildSlice t len ps,vs=>ax2 D t len ps vs hl n K
 | .load t _,[x]=>b4q D t x hl n K
 | .store t _ _,[x,y]=>bwa D t x y hl n K
 | .nilCheck _,[x]=>match x with
  | .ptr .. | .pel .. | .apel .. | .fel .. | .sta _ | .glob .. | .gel .. | .fn (.func _) _ _ | .iface _ _=>K ⟨x,[],n⟩
  | .osta q l=>br (decide (q=1)) (K ⟨.osta q l,[],n⟩) none
  | _=>none
 | .binOp op t _ _ _,[x,y]=>co0 D op t x y hl n K
 | .build t ps,vs=>bvj D t ps vs n K
 | .unOp .not _ _,[.v (.bool t)]=>K ⟨.v (.bool !t),[],n⟩
 | .unOp .neg _ _,[.v (.int k a)]=>K ⟨.v (.int k (k.wrap (0-a))),[],n⟩
 | .convert src dst _,[.v (.int _ a)]=>match D.P.underlying src,D.P.underlying dst with
  | some _,some (.int k)=>K ⟨.v (.int k (k.wrap a)),[],n⟩
  | _,_=>none
 | .convert src dst _,[.own id]=>bif Aa src dst then btd D src id hl n K else none
 | .makeInterface t _,[x]=>match D.P.underlying t with
  | some (.interface _) | none=>none
  | some _=>K ⟨.iface t x,[],n⟩
 | .makeFunc fn first _,vs=>K ⟨.fn fn (vs.take first.size) (vs.drop first.size),[],n⟩
 | .extract _ i,[.tuple l]=>bif Ae i l.length then K ⟨l.getD i .bot,[],n⟩ else none
 | .slice t _ lo hi mx,x::rest=>match b6x lo rest with
  | some (lo,rest)=>match b6x hi rest with
   | some (hi,rest)=>match b6x mx rest with
    | some (mx,_)=>bls D t x lo hi mx hl n K
    | none=>none
   | none=>none
  | none=>none
 | .makeSlice t _ _,[.v (.int _ l),.v (.int _ c)]=>baf D t l c n K
 | .fieldAddr s _ f,[x]=>bbf D s x f n K
 | .field s _ f,[.agg l]=>bvc D s l f n K
 | .indexAddr t _ _,[x,.v (.int _ i)]=>bam D t x i hl n K
 | .index t _ _,[x,.v (.int _ i)]=>bx6 D t x i n K
 | .sliceToArrayPointer t _,[.awin id off m lo len]=>match D.P.underlying t with
  | some (.array (k+1) _)=>br (decide (k+1≤len)) (K ⟨.apel id off m lo,[],n⟩) none
  | _=>none
 | .call c,vs=>b33 D c.callee c.args.toList c.argTypes.toList vs hl n K
 | _,_=>none
def mask(vs:List AVal)(h:Hp)(id:Nat):Option Blk:=bif sj id vs then iw h id else none
def opA(D:Ctx)(o:Oper)(st:ASt)(K:Eff→Option R):Option R :=
 core D o.op (evs st.f (arv o.op)) (mask (evs st.f (arv o.op)) st.h) st.n K
end Go.Abs
end

section
namespace Go.Abs
open Go
structure Env where
 S:Nat→Prop
 ρ:Nat→Option Value
def bqr(S:Nat→Prop)(w:World)(len sz:Nat)(cell:Nat→Value→Prop)(u:Value):Prop :=
 ∃A cap,u=.slice A len cap∧len≤cap ∧
  (0<len→∃a,A=some a∧S a.block∧∀j,j<len*sz→∃x,w.cell? (a.add j)=some x∧cell j x)
def anp(k:IntKind)(l:List Int)(j:Nat)(x:Value):Prop:=x=.int k (l.getD j 0)
def SlI(S:Nat→Prop)(w:World)(k:IntKind)(l:List Int)(u:Value):Prop:=bqr S w l.length 1 (anp k l) u
def au2(S:Nat→Prop)(w:World)(k:IntKind)(l:List (List Int))(j:Nat)(x:Value):Prop:=SlI S w k (l.getD j []) x
def SlR(S:Nat→Prop)(w:World)(k:IntKind)(l:List (List Int))(u:Value):Prop:=bqr S w l.length 1 (au2 S w k l) u
def avo(S:Nat→Prop)(w:World)(k:IntKind)(l:List (List (List Int)))(j:Nat)(x:Value):Prop:=SlR S w k (l.getD j []) x
def cell1(S:Nat→Prop)(w:World):Cont→Nat→Value→Prop
 | .ints k l=>anp k l
 | .rows k l=>au2 S w k l
 | .rows2 k l=>avo S w k l
 | .cols _ _=>fun _ _=>False
def cellC(S:Nat→Prop)(w:World):Cont→Nat→Value→Prop
 | .cols _ cs=>fun j x=>∃c,cs[j%cs.length]?=some c∧cell1 S w c (j/cs.length) x
 | c=>cell1 S w c
def SlC(S:Nat→Prop)(w:World)(c:Cont)(u:Value):Prop:=bqr S w c.len c.size (cellC S w c) u
structure Keeps (S S':Nat→Prop) (w w':World):Prop where
 sub:∀b,S b→S' b
 blk:∀b,S b→w'.heap[b]?=w.heap[b]?
theorem Keeps.refl(S:Nat→Prop)(w:World):Keeps S S w w:=⟨fun _ h=>h,fun _ _=>rfl⟩
theorem Keeps.trans{S S' S'':Nat→Prop}{w w' w'':World}(h:Keeps S S' w w')(k:Keeps S' S'' w' w''):Keeps S S'' w w'' :=
 ⟨fun b hb=>k.sub b (h.sub b hb),fun b hb=>(k.blk b (h.sub b hb)).trans (h.blk b hb)⟩
theorem Keeps.cell{S S':Nat→Prop}{w w':World}(h:Keeps S S' w w'){a:Addr}(ha:S a.block):w'.cell? a=w.cell? a :=
 World.cell?_of_block (h.blk a.block ha)
theorem add_block(a:Addr)(j:Nat):(a.add j).block=a.block:=by unfold Addr.add;split<;>rfl
theorem add_add(a:Addr)(i j:Nat):(a.add i).add j=a.add (i+j):=by
 unfold Addr.add
 by_cases hi:i=0
 ·subst hi;simp
 ·by_cases hj:j=0
  ·subst hj;simp
  ·rw[if_neg hi,if_neg hj,if_neg (by omega)];simp[Nat.add_assoc]
theorem y5(b o j:Nat):(⟨b,o,none⟩:Addr).add j=⟨b,o+j,none⟩:=Addr.add_lit b o j
theorem bqr.mono{S S':Nat→Prop}{w w':World}{len sz:Nat}{cell cell':Nat→Value→Prop}{u:Value}(k:Keeps S S' w w')
    (hc:∀j x,j<len*sz→cell j x→cell' j x) (h:bqr S w len sz cell u):bqr S' w' len sz cell' u:=by
 obtain ⟨A,cap,hu,hl,hx⟩:=h
 refine ⟨A,cap,hu,hl,fun h0=>?_⟩
 obtain ⟨a,hA,hS,hcell⟩:=hx h0
 refine ⟨a,hA,k.sub _ hS,fun j hj=>?_⟩
 obtain ⟨x,hx1,hx2⟩:=hcell j hj
 exact ⟨x,by rw[k.cell (by rw[add_block];exact hS)];exact hx1,hc j x hj hx2⟩
theorem SlI.mono{S S':Nat→Prop}{w w':World}(k:Keeps S S' w w'){ki:IntKind}{l:List Int}{u:Value}(h:SlI S w ki l u):SlI S' w' ki l u :=
 bqr.mono k (fun _ _ _ h=>h) h
theorem SlR.mono{S S':Nat→Prop}{w w':World}(k:Keeps S S' w w'){ki:IntKind}{l:List (List Int)}{u:Value}(h:SlR S w ki l u):SlR S' w' ki l u :=
 bqr.mono k (fun _ _ _ h=>SlI.mono k h) h
theorem cell1.mono{S S':Nat→Prop}{w w':World}(k:Keeps S S' w w'){c:Cont}{j:Nat}{x:Value}(h:cell1 S w c j x):cell1 S' w' c j x:=by
 cases c with
 | ints=>exact h
 | rows=>exact SlI.mono k h
 | rows2=>exact SlR.mono k h
 | cols=>exact h
theorem cellC.mono{S S':Nat→Prop}{w w':World}(k:Keeps S S' w w'){c:Cont}{j:Nat}{x:Value}(h:cellC S w c j x):cellC S' w' c j x:=by
 cases c with
 | cols n cs=>obtain ⟨c,hc,h⟩:=h;exact ⟨c,hc,cell1.mono k h⟩
 | ints=>exact h
 | rows=>exact SlI.mono k h
 | rows2=>exact SlR.mono k h
theorem SlC.mono{S S':Nat→Prop}{w w':World}(k:Keeps S S' w w'){c:Cont}{u:Value}(h:SlC S w c u):SlC S' w' c u :=
 bqr.mono k (fun _ _ _ h=>cellC.mono k h) h
mutual
def ig(E:Env)(w:World):AVal→Value→Prop
 | .v x,u=>u=x
 | .bot,_=>True
 | .sl c,u=>SlC E.S w c u
 | .own id,u=>E.ρ id=some u
 | .win id off len,u=>∃A n cap,E.ρ id=some (.slice A n cap)∧off+len≤n∧∃A',(0<len→A'=A.map (·.add off))∧(off=0→A'=A)∧u=.slice A' len (cap-off)
 | .awin id off m lo len,u=>∃b A cap,E.ρ id=some (.pointer (some ⟨b,0,none⟩))∧lo+len≤m∧len≤cap∧(0<len→A=some ⟨b,off+lo,none⟩)∧u=.slice A len cap
 | .arr k n l,u=>l.length=n∧u=.agg (l.map (Value.int k)).toArray
 | .agg l,u=>∃cs,u=.agg cs.toArray∧qw E w l cs
 | .ptr id off,u=>∃b,E.ρ id=some (.pointer (some ⟨b,0,none⟩))∧u=.pointer (some ⟨b,off,none⟩)
 | .pel id sz i,u=>∃a n cap,E.ρ id=some (.slice (some a) n cap)∧i<n∧u=.pointer (some (a.add (i*sz)))
 | .fel id sz i off,u=>∃a n cap,E.ρ id=some (.slice (some a) n cap)∧i<n∧off<sz∧u=.pointer (some (a.add (i*sz+off)))
 | .apel id off m i,u=>∃b,E.ρ id=some (.pointer (some ⟨b,0,none⟩))∧i<m∧u=.pointer (some ⟨b,off+i,none⟩)
 | .sta l,u=>∃a cs,u=.pointer (some a)∧E.S a.block∧qw E w l cs∧∀j,j<cs.length→w.cell? (a.add j)=cs[j]?
 | .osta t l,u=>(t=0∧u=.pointer none)∨(t=1∧∃a cs,u=.pointer (some a)∧E.S a.block∧qw E w l cs∧∀j,j<cs.length→w.cell? (a.add j)=cs[j]?)
 | .fn f a b,u=>∃x y,u=.func f x.toArray y.toArray∧mq E w a x∧mq E w b y
 | .iface t x,u=>∃y,u=.iface t y∧ig E w x y
 | .tuple l,u=>∃vs,u=.tuple vs.toArray∧mq E w l vs
 | .fr _ _,_=>False
 | .glob g off,u=>u=.pointer (some ⟨g,off,none⟩)
 | .gel g off m i,u=>i<m∧u=.pointer (some ⟨g,off+i,none⟩)
 | .yld id ts vs,u=>∃l T,E.ρ id=some (.func (.yield l) T #[])∧u=.func (.yield l) #[] #[]∧mq E w vs (ts.map fun t=>T.getD t undef)
 | .alt t f fa fc g ga gc,u=>(t=0∧u=.nilFunc)∨(t=1∧∃x y,u=.func f x.toArray y.toArray∧mq E w fa x∧mq E w fc y)∨(t=2∧∃x y,u=.func g x.toArray y.toArray∧mq E w ga x∧mq E w gc y)
def mq(E:Env)(w:World):List AVal→List Value→Prop
 | [],vs=>vs=[]
 | a::r,vs=>∃u us,vs=u::us∧ig E w a u∧mq E w r us
def qw(E:Env)(w:World):List AVal→List Value→Prop
 | [],cs=>cs=[]
 | .arr k n l::r,cs=>∃cs',l.length=n∧cs=l.map (Value.int k)++cs'∧qw E w r cs'
 | a::r,cs=>∃u cs',cs=u::cs'∧u.oneCell'=true∧ig E w a u∧qw E w r cs'
end
structure Env.Le (n:Nat) (E E':Env) (w w':World):Prop where
 keeps:Keeps E.S E'.S w w'
 ρ:∀id,id<n→∀u,E.ρ id=some u→E'.ρ id=some u
theorem Env.Le.refl(n:Nat)(E:Env)(w:World):Env.Le n E E w w:=⟨Keeps.refl _ _,fun _ _ _ h=>h⟩
theorem Env.Le.trans{n:Nat}{E E' E'':Env}{w w' w'':World}(h:Env.Le n E E' w w')(k:Env.Le n E' E'' w' w''):Env.Le n E E'' w w'' :=
 ⟨h.keeps.trans k.keeps,fun id hid u hu=>k.ρ id hid u (h.ρ id hid u hu)⟩
theorem Env.Le.mono{n m:Nat}{E E':Env}{w w':World}(h:Env.Le n E E' w w')(hm:m≤n):Env.Le m E E' w w' :=
 ⟨h.keeps,fun id hid u hu=>h.ρ id (Nat.lt_of_lt_of_le hid hm) u hu⟩
end Go.Abs
end

section
namespace Go.Abs
open Go
structure Up (E E':Env) (w w':World):Prop where
 keeps:Keeps E.S E'.S w w'
 ρ:∀id u,E.ρ id=some u→E'.ρ id=some u
theorem Up.refl(E:Env)(w:World):Up E E w w:=⟨Keeps.refl _ _,fun _ _ h=>h⟩
theorem Up.trans{E E' E'':Env}{w w' w'':World}(h:Up E E' w w')(k:Up E' E'' w' w''):Up E E'' w w'' :=
 ⟨h.keeps.trans k.keeps,fun id u hu=>k.ρ id u (h.ρ id u hu)⟩
theorem y8{E:Env}{w:World}{a:AVal}{r:List AVal}{cs:List Value}(h:qw E w (a::r) cs) :
    (∃k n l cs',a=.arr k n l∧l.length=n∧cs=l.map (Value.int k)++cs'∧qw E w r cs') ∨
    ((∀k n l,a≠.arr k n l)∧∃u cs',cs=u::cs'∧u.oneCell'=true∧ig E w a u∧qw E w r cs'):=by
 cases a<;>simp only[qw] at h<;>first
  | (obtain ⟨cs',h1,h2,h3⟩:=h;exact .inl ⟨_,_,_,cs',rfl,h1,h2,h3⟩)
  | (obtain ⟨u,cs',h1,h2,h3,h4⟩:=h;exact .inr ⟨by simp,u,cs',h1,h2,h3,h4⟩)
theorem abo{E:Env}{w:World}{k:IntKind}{n:Nat}{l:List Int}{r:List AVal}{cs':List Value}(h1:l.length=n)(h3:qw E w r cs') :
    qw E w (.arr k n l::r) (l.map (Value.int k)++cs'):=by simp only[qw];exact ⟨cs',h1,rfl,h3⟩
theorem om{E:Env}{w:World}{a:AVal}{r:List AVal}{u:Value}{cs':List Value}(ha:∀k n l,a≠.arr k n l)(h2:u.oneCell'=true)(h3:ig E w a u)(h4:qw E w r cs') :
    qw E w (a::r) (u::cs'):=by
 cases a<;>simp only[qw]<;>first
  | exact absurd rfl (ha _ _ _)
  | exact ⟨u,cs',rfl,h2,h3,h4⟩
mutual
theorem ig.mono{E E':Env}{w w':World}(k:Up E E' w w'):∀(a:AVal) (u:Value),ig E w a u→ig E' w' a u
 | .v x,u,h=>by simp only[ig] at h ⊢;exact h
 | .bot,u,_=>by simp only[ig]
 | .sl c,u,h=>by simp only[ig] at h ⊢;exact SlC.mono k.keeps h
 | .own id,u,h=>by simp only[ig] at h ⊢;exact k.ρ _ _ h
 | .win id off len,u,h=>by
  simp only[ig] at h ⊢
  obtain ⟨A,n,cap,h1,h2⟩:=h
  exact ⟨A,n,cap,k.ρ _ _ h1,h2⟩
 | .awin id off m lo len,u,h=>by
  simp only[ig] at h ⊢
  obtain ⟨b,A,cap,h1,h2⟩:=h
  exact ⟨b,A,cap,k.ρ _ _ h1,h2⟩
 | .arr k n l,u,h=>by simp only[ig] at h ⊢;exact h
 | .agg l,u,h=>by
  simp only[ig] at h ⊢
  obtain ⟨cs,h1,h2⟩:=h
  exact ⟨cs,h1,qw.mono k l cs h2⟩
 | .ptr id off,u,h=>by
  simp only[ig] at h ⊢
  obtain ⟨b,h1,h2⟩:=h
  exact ⟨b,k.ρ _ _ h1,h2⟩
 | .pel id sz i,u,h=>by
  simp only[ig] at h ⊢
  obtain ⟨a,n,cap,h1,h2⟩:=h
  exact ⟨a,n,cap,k.ρ _ _ h1,h2⟩
 | .fel id sz i off,u,h=>by
  simp only[ig] at h ⊢
  obtain ⟨a,n,cap,h1,h2⟩:=h
  exact ⟨a,n,cap,k.ρ _ _ h1,h2⟩
 | .apel id off m i,u,h=>by
  simp only[ig] at h ⊢
  obtain ⟨b,h1,h2⟩:=h
  exact ⟨b,k.ρ _ _ h1,h2⟩
 | .sta l,u,h=>by
  simp only[ig] at h ⊢
  obtain ⟨a,cs,h1,h2,h3,h4⟩:=h
  exact ⟨a,cs,h1,k.keeps.sub _ h2,qw.mono k l cs h3,fun j hj=>by rw[k.keeps.cell (by rw[add_block];exact h2)];exact h4 j hj⟩
 | .osta q l,u,h=>by
  simp only[ig] at h ⊢
  rcases h with h | ⟨h0,a,cs,h1,h2,h3,h4⟩
  ·exact .inl h
  ·exact .inr ⟨h0,a,cs,h1,k.keeps.sub _ h2,qw.mono k l cs h3,fun j hj=>by rw[k.keeps.cell (by rw[add_block];exact h2)];exact h4 j hj⟩
 | .fn f a b,u,h=>by
  simp only[ig] at h ⊢
  obtain ⟨x,y,h1,h2,h3⟩:=h
  exact ⟨x,y,h1,mq.mono k a x h2,mq.mono k b y h3⟩
 | .iface t x,u,h=>by
  simp only[ig] at h ⊢
  obtain ⟨y,h1,h2⟩:=h
  exact ⟨y,h1,ig.mono k x y h2⟩
 | .tuple l,u,h=>by
  simp only[ig] at h ⊢
  obtain ⟨vs,h1,h2⟩:=h
  exact ⟨vs,h1,mq.mono k l vs h2⟩
 | .fr e c,u,h=>by simp only[ig] at h
 | .glob g off,u,h=>by simp only[ig] at h ⊢;exact h
 | .gel g off m i,u,h=>by simp only[ig] at h ⊢;exact h
 | .yld id ts vs,u,h=>by
  simp only[ig] at h ⊢
  obtain ⟨l,T,h1,h2,h3⟩:=h
  exact ⟨l,T,k.ρ _ _ h1,h2,mq.mono k vs _ h3⟩
 | .alt t f fa fc g ga gc,u,h=>by
  simp only[ig] at h ⊢
  rcases h with h | ⟨h0,x,y,h1,h2,h3⟩ | ⟨h0,x,y,h1,h2,h3⟩
  ·exact .inl h
  ·exact .inr (.inl ⟨h0,x,y,h1,mq.mono k fa x h2,mq.mono k fc y h3⟩)
  ·exact .inr (.inr ⟨h0,x,y,h1,mq.mono k ga x h2,mq.mono k gc y h3⟩)
theorem mq.mono{E E':Env}{w w':World}(k:Up E E' w w'):∀(l:List AVal) (vs:List Value),mq E w l vs→mq E' w' l vs
 | [],vs,h=>by simp only[mq] at h ⊢;exact h
 | a::r,vs,h=>by
  simp only[mq] at h ⊢
  obtain ⟨u,us,h1,h2,h3⟩:=h
  exact ⟨u,us,h1,ig.mono k a u h2,mq.mono k r us h3⟩
theorem qw.mono{E E':Env}{w w':World}(k:Up E E' w w'):∀(l:List AVal) (cs:List Value),qw E w l cs→qw E' w' l cs
 | [],cs,h=>by simp only[qw] at h ⊢;exact h
 | a::r,cs,h=>by
  rcases y8 h with ⟨k',n,l,cs',rfl,h1,rfl,h3⟩ | ⟨ha,u,cs',rfl,h2,h3,h4⟩
  ·exact abo h1 (qw.mono k r cs' h3)
  ·exact om ha h2 (ig.mono k a u h3) (qw.mono k r cs' h4)
end
theorem auj{E:Env}{w:World}{t:Nat}{f g:Fn}{fa fc ga gc:List AVal}{u:Value}:ig E w (.alt t f fa fc g ga gc) u ↔
    (t=0∧u=.nilFunc)∨(t=1∧ig E w (.fn f fa fc) u)∨(t=2∧ig E w (.fn g ga gc) u):=by simp only[ig]
theorem ai3{E:Env}{w:World}:∀(l:List AVal) (cs:List Value),qw E w l cs→cs.length=(l.map bax).sum
 | [],cs,h=>by simp only[qw] at h;subst h;rfl
 | a::r,cs,h=>by
  rcases y8 h with ⟨k',n,l,cs',rfl,h1,rfl,h3⟩ | ⟨ha,u,cs',rfl,h2,h3,h4⟩
  ·have:=ai3 r cs' h3
   simp[bax,h1,this]
  ·have:=ai3 r cs' h4
   have e:bax a=1:=by cases a<;>first | rfl | exact absurd rfl (ha _ _ _)
   simp[e,this];omega
theorem alu{E:Env}{w:World}:∀(l:List AVal) (r:List AVal) (cs:List Value),qw E w (tq l r) cs→∃c1 c2,cs=c1++c2∧qw E w l c1∧qw E w r c2
 | [],r,cs,h=>⟨[],cs,rfl,by simp only[qw],h⟩
 | a::l,r,cs,h=>by
  rcases y8 h with ⟨k',n,z,cs',rfl,h1,rfl,h3⟩ | ⟨ha,u,cs',rfl,h2,h3,h4⟩
  ·obtain ⟨c1,c2,rfl,g1,g2⟩:=alu l r cs' h3
   exact ⟨z.map (Value.int k')++c1,c2,by simp,abo h1 g1,g2⟩
  ·obtain ⟨c1,c2,rfl,g1,g2⟩:=alu l r cs' h4
   exact ⟨u::c1,c2,rfl,om ha h2 h3 g1,g2⟩
theorem ad9{E:Env}{w:World}:∀(l:List AVal) (r:List AVal) (c1 c2:List Value),qw E w l c1→qw E w r c2→qw E w (tq l r) (c1++c2)
 | [],r,c1,c2,h,g=>by simp only[qw] at h;subst h;exact g
 | a::l,r,c1,c2,h,g=>by
  rcases y8 h with ⟨k',n,z,cs',rfl,h1,rfl,h3⟩ | ⟨ha,u,cs',rfl,h2,h3,h4⟩
  ·rw[List.append_assoc];exact abo h1 (ad9 l r cs' c2 h3 g)
  ·exact om ha h2 h3 (ad9 l r cs' c2 h4 g)
theorem ajz{α:Type}:∀(l r:List α),tq l r=l++r
 | [],_=>rfl
 | a::l,r=>by simp[tq,ajz l r]
theorem agd:∀(l:List AVal) (n:Nat) (x y:List AVal),ab3 l n=some (x,y)→l=tq x y∧(x.map bax).sum=n
 | l,0,x,y,h=>by
  rw[ab3] at h
  cases h
  exact ⟨rfl,rfl⟩
 | [],n+1,x,y,h=>by rw[ab3] at h;cases h
 | a::r,n+1,x,y,h=>by
  rw[ab3] at h
  cases hb:Nat.ble (bax a) (n+1) with
  | false=>rw[hb] at h;cases h
  | true =>
   rw[hb] at h
   simp only[cond_true] at h
   have hle:=Nat.le_of_ble_eq_true hb
   cases hs:ab3 r (n+1-bax a) with
   | none=>rw[hs] at h;cases h
   | some p =>
    obtain ⟨p,q⟩:=p
    rw[hs] at h
    simp only[Option.some.injEq,Prod.mk.injEq] at h
    obtain ⟨rfl,rfl⟩:=h
    obtain ⟨g1,g2⟩:=agd r _ _ _ hs
    refine ⟨by rw[g1];rfl,?_⟩
    simp[g2];omega
theorem bvu{l:List AVal}{off sz:Nat}{pre mid post:List AVal}(h:bn4 l off sz=some (pre,mid,post)) :
    l=tq pre (tq mid post)∧(pre.map bax).sum=off∧(mid.map bax).sum=sz:=by
 unfold bn4 at h
 cases h1:ab3 l off with
 | none=>rw[h1] at h;cases h
 | some p =>
  obtain ⟨p,q⟩:=p
  rw[h1] at h
  simp only at h
  cases h2:ab3 q sz with
  | none=>rw[h2] at h;cases h
  | some p2 =>
   obtain ⟨p2,q2⟩:=p2
   rw[h2] at h
   simp only[Option.some.injEq,Prod.mk.injEq] at h
   obtain ⟨rfl,rfl,rfl⟩:=h
   obtain ⟨a1,a2⟩:=agd _ _ _ _ h1
   obtain ⟨b1,b2⟩:=agd _ _ _ _ h2
   exact ⟨by rw[a1,b1],a2,b2⟩
theorem agf{k k':IntKind}(h:aw1 k k'=true):k=k':=by cases k<;>cases k'<;>first | rfl | cases h
theorem ap3{k k':IntKind}{x:Option R}{r:R}(h:kOk k k' x=some r):k=k'∧x=some r:=by
 unfold kOk at h
 cases hb:aw1 k k' with
 | true=>rw[hb] at h;exact ⟨agf hb,h⟩
 | false=>rw[hb] at h;cases h
theorem abm{b:Bool}{x y:Option R}{r:R}(h:br b x y=some r):(b=true∧x=some r)∨(b=false∧y=some r):=by
 unfold br at h
 cases b with
 | true=>exact .inl ⟨rfl,h⟩
 | false=>exact .inr ⟨rfl,h⟩
theorem ah7{b:Bool}{x:Option R}{r:R}(h:br b x none=some r):b=true∧x=some r:=by
 rcases abm h with h | ⟨_,h⟩
 ·exact h
 ·cases h
section
variable {n:Nat} {E E':Env} {w:World}
mutual
theorem bd0(hS:E'.S=E.S)(hρ:∀id,id<n→E'.ρ id=E.ρ id):∀(a:AVal) (u:Value),bnd n a=true→ig E w a u→ig E' w a u
 | .v x,u,hb,h=>by simp only[ig] at h ⊢;exact h
 | .bot,u,hb,_=>by simp only[ig]
 | .sl c,u,hb,h=>by simp only[ig] at h ⊢;rw[hS];exact h
 | .own id,u,hb,h=>by simp only[ig] at h ⊢;rw[hρ id (by simpa [bnd] using hb)];exact h
 | .win id off len,u,hb,h=>by simp only[ig] at h ⊢;rw[hρ id (by simpa [bnd] using hb)];exact h
 | .awin id off m lo len,u,hb,h=>by simp only[ig] at h ⊢;rw[hρ id (by simpa [bnd] using hb)];exact h
 | .arr k m l,u,hb,h=>by simp only[ig] at h ⊢;exact h
 | .agg l,u,hb,h=>by
  simp only[ig] at h ⊢
  obtain ⟨cs,h1,h2⟩:=h
  exact ⟨cs,h1,amu hS hρ l cs (by simpa [bnd] using hb) h2⟩
 | .ptr id off,u,hb,h=>by simp only[ig] at h ⊢;rw[hρ id (by simpa [bnd] using hb)];exact h
 | .pel id sz i,u,hb,h=>by simp only[ig] at h ⊢;rw[hρ id (by simpa [bnd] using hb)];exact h
 | .fel id sz i off,u,hb,h=>by simp only[ig] at h ⊢;rw[hρ id (by simpa [bnd] using hb)];exact h
 | .apel id off m i,u,hb,h=>by simp only[ig] at h ⊢;rw[hρ id (by simpa [bnd] using hb)];exact h
 | .sta l,u,hb,h=>by
  simp only[ig] at h ⊢
  obtain ⟨a,cs,h1,h2,h3,h4⟩:=h
  exact ⟨a,cs,h1,by rw[hS];exact h2,amu hS hρ l cs (by simpa [bnd] using hb) h3,h4⟩
 | .osta q l,u,hb,h=>by
  simp only[ig] at h ⊢
  rcases h with h | ⟨h0,a,cs,h1,h2,h3,h4⟩
  ·exact .inl h
  ·exact .inr ⟨h0,a,cs,h1,by rw[hS];exact h2,amu hS hρ l cs (by simpa [bnd] using hb) h3,h4⟩
 | .fn f a b,u,hb,h=>by
  simp only[ig] at h ⊢
  obtain ⟨x,y,h1,h2,h3⟩:=h
  simp only[bnd,Ag] at hb
  exact ⟨x,y,h1,ahq hS hρ a x hb.1 h2,ahq hS hρ b y hb.2 h3⟩
 | .iface t x,u,hb,h=>by
  simp only[ig] at h ⊢
  obtain ⟨y,h1,h2⟩:=h
  exact ⟨y,h1,bd0 hS hρ x y (by simpa [bnd] using hb) h2⟩
 | .tuple l,u,hb,h=>by
  simp only[ig] at h ⊢
  obtain ⟨vs,h1,h2⟩:=h
  exact ⟨vs,h1,ahq hS hρ l vs (by simpa [bnd] using hb) h2⟩
 | .fr e c,u,hb,h=>by simp only[ig] at h
 | .glob g off,u,hb,h=>by simp only[ig] at h ⊢;exact h
 | .gel g off m i,u,hb,h=>by simp only[ig] at h ⊢;exact h
 | .yld id ts vs,u,hb,h=>by
  simp only[ig] at h ⊢
  obtain ⟨l,T,h1,h2,h3⟩:=h
  simp only[bnd,Ag] at hb
  exact ⟨l,T,by rw[hρ id (by simpa using hb.1)];exact h1,h2,ahq hS hρ vs _ hb.2 h3⟩
 | .alt t f fa fc g ga gc,u,hb,h=>by
  simp only[ig] at h ⊢
  simp only[bnd,Ag] at hb
  rcases h with h | ⟨h0,x,y,h1,h2,h3⟩ | ⟨h0,x,y,h1,h2,h3⟩
  ·exact .inl h
  ·exact .inr (.inl ⟨h0,x,y,h1,ahq hS hρ fa x hb.1.1 h2,ahq hS hρ fc y hb.1.2 h3⟩)
  ·exact .inr (.inr ⟨h0,x,y,h1,ahq hS hρ ga x hb.2.1 h2,ahq hS hρ gc y hb.2.2 h3⟩)
theorem ahq(hS:E'.S=E.S)(hρ:∀id,id<n→E'.ρ id=E.ρ id):∀(l:List AVal) (vs:List Value),ax3 n l=true→mq E w l vs→mq E' w l vs
 | [],vs,hb,h=>by simp only[mq] at h ⊢;exact h
 | a::r,vs,hb,h=>by
  simp only[mq] at h ⊢
  obtain ⟨u,us,h1,h2,h3⟩:=h
  simp only[ax3,Ag] at hb
  exact ⟨u,us,h1,bd0 hS hρ a u hb.1 h2,ahq hS hρ r us hb.2 h3⟩
theorem amu(hS:E'.S=E.S)(hρ:∀id,id<n→E'.ρ id=E.ρ id):∀(l:List AVal) (cs:List Value),ax3 n l=true→qw E w l cs→qw E' w l cs
 | [],cs,hb,h=>by simp only[qw] at h ⊢;exact h
 | a::r,cs,hb,h=>by
  simp only[ax3,Ag] at hb
  rcases y8 h with ⟨k',m,l,cs',rfl,h1,rfl,h3⟩ | ⟨ha,u,cs',rfl,h2,h3,h4⟩
  ·exact abo h1 (amu hS hρ r cs' hb.2 h3)
  ·exact om ha h2 (bd0 hS hρ a u hb.1 h3) (amu hS hρ r cs' hb.2 h4)
end
end
end Go.Abs
end

section
namespace Go.Abs
open Go Go.RowKit
def jk:Value→Option Nat
 | .slice (some a) _ _=>some a.block
 | .pointer (some a)=>some a.block
 | _=>none
def bdm(E:Env)(w:World)(B0:Nat)(id:Nat)(b:Blk):Prop :=
 ∃u,E.ρ id=some u ∧
  (match b.b with
   | .row e c=>∃xs,w.ownsRow B0 e c.size u c.len xs∧∀j x,xs[j]?=some x→x.oneCell'=true∧cellC E.S w c j x
   | .box e l=>∃k cs,u=.pointer (some ⟨k,0,none⟩)∧B0≤k∧w.heap[k]?=some (.cells cs e (0,0))∧qw E w l cs.toList) ∧
  (b.frz=false→∀k,jk u=some k→¬E.S k) ∧
  (b.frz=true→∀k,jk u=some k→E.S k)
structure W0 where
 w:World
 S0:Nat→Prop
 y:Option (Nat×Nat×Array Value):=none
abbrev mark(l:Nat)(T:Array Value):Value:=.func (.yield l) T #[]
def bwh(w0:W0)(id:Nat)(u:Value):Prop :=
 ((∃A n c,u=.slice A n c)∨∃a,u=.pointer (some a))∨∃l T,w0.y=some (id,l,T)∧u=mark l T
def au4(D:Ctx)(B0:Nat)(w0:W0)(E:Env)(w:World):Prop :=
 ∀id l T,w0.y=some (id,l,T)→B0≤l∧E.S l∧∃Y r,D.y=some Y∧w.heap[l]?=some (.loop r)∧r.tmps=T∧r.params=Y.ps∧r.assign=Y.assign∧r.body=Y.body∧T.size=Y.m ∧
  (Y.ready=true→r.state=.ready∧r.pending=none)
def Marks(B0:Nat)(E:Env)(w:World):List Deferred→Prop
 | []=>True
 | d::r=>(∃b,d={ target:=.collected b,args:=#[] }∧B0≤b∧E.S b∧w.heap[b]?=some (.deferred (some []))∧∀d',d'∈r→d'.target≠.collected b)∧Marks B0 E w r
structure Rel (D:Ctx) (B0:Nat) (w0:W0) (E:Env) (st:ASt) (act:Act) (w:World):Prop where
 below:Below B0 w0.w w
 base:B0≤w.heap.size
 size:act.tmps.size=st.m
 idle:D.top=false→act.defers=[]
 marks:Marks B0 E w act.defers
 recs:au4 D B0 w0 E w
 tmps:∀t,ig E w (look st.f t) (act.tmps.getD t undef)
 heap:∀id b,iw st.h id=some b→bdm E w B0 id b
 apart:∀id id' b b' u u' k,iw st.h id=some b→b.frz=false→iw st.h id'=some b'→b'.frz=false→id≠id' →
  E.ρ id=some u→E.ρ id'=some u'→jk u=some k→jk u'≠some k
 sOld:∀b,E.S b→b<w.heap.size
 sNew:∀b,E.S b→w0.S0 b∨B0≤b
 form:∀id u,E.ρ id=some u→bwh w0 id u
 globs:∀g l,assoc D.globs g=some l→E.S g∧∃cs e fz,w.heap[g]?=some (.cells cs e fz)∧qw E w l cs.toList
theorem Marks.keeps{B0:Nat}{E E':Env}{w w':World}(k:Keeps E.S E'.S w w'):∀{ds:List Deferred},Marks B0 E w ds→Marks B0 E' w' ds
 | [],_=>trivial
 | d::r,h=>by
  obtain ⟨⟨b,h1,h2,h3,h4,h5⟩,h6⟩:=h
  exact ⟨⟨b,h1,h2,k.sub _ h3,by rw[k.blk _ h3];exact h4,h5⟩,h6.keeps k⟩
theorem Marks.mono{B0:Nat}{E E':Env}{w w':World}(k:Up E E' w w'){ds:List Deferred}(h:Marks B0 E w ds):Marks B0 E' w' ds:=h.keeps k.keeps
theorem au4.keeps{D:Ctx}{B0:Nat}{w0:W0}{E E':Env}{w w':World}(k:Keeps E.S E'.S w w')(h:au4 D B0 w0 E w):au4 D B0 w0 E' w':=by
 intro id l T hy
 obtain ⟨h1,h2,Y,r,h3,h4,h5⟩:=h id l T hy
 exact ⟨h1,k.sub _ h2,Y,r,h3,by rw[k.blk _ h2];exact h4,h5⟩
theorem au4.mono{D:Ctx}{B0:Nat}{w0:W0}{E E':Env}{w w':World}(k:Up E E' w w')(h:au4 D B0 w0 E w):au4 D B0 w0 E' w':=h.keeps k.keeps
theorem bbc{D:Ctx}{B0:Nat}{w0:W0}{E:Env}{w:World}(h:w0.y=none):au4 D B0 w0 E w:=by
 intro id l T hy
 rw[h] at hy
 cases hy
theorem bui{u:Value}:u.ownBlock=jk u∨∃a,u=.pointer a:=by
 cases u with
 | slice a n c=>cases a<;>simp[Value.ownBlock,jk]
 | pointer a=>exact .inr ⟨a,rfl⟩
 | _=>simp[Value.ownBlock,jk]
theorem bdm.lt{E:Env}{w:World}{B0 id:Nat}{b:Blk}(h:bdm E w B0 id b){u:Value}(hu:E.ρ id=some u){k:Nat}(hk:jk u=some k):B0≤k∧k<w.heap.size:=by
 obtain ⟨u',hu',hb,_⟩:=h
 rw[hu] at hu';cases hu'
 cases hb':b.b with
 | row e c =>
  rw[hb'] at hb
  obtain ⟨xs,ho,_⟩:=hb
  have:u.ownBlock=some k:=by
   rcases bui (u:=u) with e | ⟨a,rfl⟩
   ·rw[e];exact hk
   ·rcases ho.2 with ⟨h,_⟩ | ⟨g,cap,cur,h,_⟩<;>cases h
  exact ho.lt k this
 | box e l =>
  rw[hb'] at hb
  obtain ⟨k',cs,rfl,hB,hh,_⟩:=hb
  simp[jk] at hk
  subst hk
  exact ⟨hB,(Array.getElem?_eq_some_iff.1 hh).1⟩
theorem bdm.form{E:Env}{w:World}{B0 id:Nat}{b:Blk}(h:bdm E w B0 id b){u:Value}(hu:E.ρ id=some u):(∃A n c,u=.slice A n c)∨∃a,u=.pointer (some a):=by
 obtain ⟨u',hu',hb,_⟩:=h
 rw[hu] at hu';cases hu'
 cases hb':b.b with
 | row e c =>
  rw[hb'] at hb
  obtain ⟨xs,ho,_⟩:=hb
  rcases ho.2 with ⟨h,_⟩ | ⟨g,cap,cur,h,_⟩
  ·exact .inl ⟨_,_,_,h⟩
  ·exact .inl ⟨_,_,_,h⟩
 | box e l =>
  rw[hb'] at hb
  obtain ⟨k',cs,h,_⟩:=hb
  exact .inr ⟨_,h⟩
theorem bp0{w w':World}{base:Nat}{e:TypeId}{size n:Nat}{v:Value}{xs:List Value}(h:w.ownsRow base e size v n xs)
    (hs:∀k,jk v=some k→w'.heap[k]?=w.heap[k]?):w'.ownsRow base e size v n xs:=by
 refine ⟨h.1,?_⟩
 rcases h.2 with hn | ⟨g,cap,cur,rfl,hb,hg,rest⟩
 ·exact .inl hn
 ·exact .inr ⟨g,cap,cur,rfl,hb,by rw[hs g rfl];exact hg,rest⟩
theorem bdm.mono{E E':Env}{w w':World}{B0 id:Nat}{b:Blk}(k:Up E E' w w')(h:bdm E w B0 id b)
    (hs:∀u j,E.ρ id=some u→jk u=some j→w'.heap[j]?=w.heap[j]?)
    (hS:b.frz=false→∀u j,E.ρ id=some u→jk u=some j→E'.S j→E.S j):bdm E' w' B0 id b:=by
 obtain ⟨u,hu,hb,hf,ht⟩:=h
 refine ⟨u,k.ρ _ _ hu,?_,fun hfr j hj hSj=>hf hfr j hj (hS hfr u j hu hj hSj),fun hfr j hj=>k.keeps.sub _ (ht hfr j hj)⟩
 cases hb':b.b with
 | row e c =>
  rw[hb'] at hb
  obtain ⟨xs,ho,hx⟩:=hb
  exact ⟨xs,bp0 ho (fun j hj=>hs u j hu hj),fun j x hjx=>⟨(hx j x hjx).1,cellC.mono k.keeps (hx j x hjx).2⟩⟩
 | box e l =>
  rw[hb'] at hb
  obtain ⟨g,cs,rfl,hB,hh,hl⟩:=hb
  exact ⟨g,cs,rfl,hB,by rw[hs _ g hu rfl];exact hh,qw.mono k l _ hl⟩
theorem adj(m:Nat)(dst:Option Nat)(a:AVal)(f:List (Nat×AVal))(t:Nat) :
    look (b3o m dst a f) t=if dst=some t∧t<m then a else look f t:=by
 cases dst with
 | none=>simp[b3o]
 | some d =>
  simp only[b3o]
  cases hb:Ae d m with
  | false =>
   have hn:¬d<m:=by intro h;rw[Ae,Nat.ble_eq_true_of_le h] at hb;cases hb
   simp only[cond_false]
   rw[if_neg]
   rintro ⟨h,h2⟩
   cases h
   exact hn h2
  | true =>
   have hm:d<m:=by simpa using hb
   simp only[cond_true,look]
   cases he:Aa d t with
   | true =>
    have:=Nat.eq_of_beq_eq_true he
    subst this
    simp[hm]
   | false =>
    have hne:=Nat.ne_of_beq_eq_false he
    simp[hne]
theorem bzq(act:Act)(dst:Option Nat)(u:Value):(act.put dst u).tmps.size=act.tmps.size:=by
 cases dst<;>simp[Act.put]
theorem put_defers(act:Act)(dst:Option Nat)(u:Value):(act.put dst u).defers=act.defers:=by
 cases dst<;>rfl
theorem bzy(act:Act)(dst:Option Nat)(u:Value)(t:Nat) :
    (act.put dst u).tmps.getD t undef=if dst=some t∧t<act.tmps.size then u else act.tmps.getD t undef:=by
 cases dst with
 | none=>simp[Act.put]
 | some d =>
  simp only[Act.put,Array.getD_eq_getD_getElem?,Array.getElem?_setIfInBounds]
  by_cases h:d=t
  ·subst h
   by_cases h2:d<act.tmps.size
   ·simp[h2]
   ·simp[h2]
  ·simp[h]
theorem afe(p h:Hp)(id:Nat):iw (tq p h) id=(match assoc p id with | some b=>b | none=>iw h id):=by
 induction p with
 | nil=>rfl
 | cons x r ih =>
  obtain ⟨k,b⟩:=x
  simp only[tq,iw,assoc]
  cases Aa k id<;>simp[ih]
section
variable {D:Ctx} {B0:Nat} {w0:W0} {E:Env} {st:ASt} {act:Act} {w:World}
theorem Rel.put(h:Rel D B0 w0 E st act w){a:AVal}{u:Value}(hu:ig E w a u)(dst:Option Nat):Rel D B0 w0 E (st.put dst a) (act.put dst u) w :=
 { h with
   size:=by rw[bzq];exact h.size
   idle:=by rw[put_defers];exact h.idle
   marks:=by rw[put_defers];exact h.marks
   tmps:=fun t=>by
    simp only[ASt.put]
    rw[adj,bzy,h.size]
    split
    ·exact hu
    ·exact h.tmps t }
theorem Rel.b2q(h:Rel D B0 w0 E st act w)(n:Nat):Rel D B0 w0 E { st with n:=n } act w :=
 { h with }
theorem Rel.b23(h:Rel D B0 w0 E st act w){a:AVal}{u:Value}(hu:ig E w a u)(n:Nat)(dst:Option Nat) :
    Rel D B0 w0 E (st.app ⟨a,[],n⟩ dst) (act.put dst u) w:=(h.put hu dst).b2q n
theorem Rel.step(h:Rel D B0 w0 E st act w){E':Env}{w':World}(k:Up E E' w w')(hb:Below B0 w w'){h':Hp}(n:Nat)
    (hh:∀id b,iw h' id=some b→bdm E' w' B0 id b)
    (ha:∀id id' b b' u u' k,iw h' id=some b→b.frz=false→iw h' id'=some b'→b'.frz=false→id≠id' →
     E'.ρ id=some u→E'.ρ id'=some u'→jk u=some k→jk u'≠some k)
    (hS:∀b,E'.S b→E.S b∨(B0≤b∧b<w'.heap.size)) (hF:∀id u,E'.ρ id=some u→bwh w0 id u):Rel D B0 w0 E' { st with h:=h',n:=n } act w' where
 below:=h.below.trans hb
 base:=Nat.le_trans h.base hb.size
 size:=h.size
 idle:=h.idle
 marks:=h.marks.mono k
 recs:=h.recs.mono k
 tmps:=fun t=>ig.mono k _ _ (h.tmps t)
 heap:=hh
 apart:=ha
 sOld:=fun b hb'=>by
  rcases hS b hb' with h1 | h1
  ·exact Nat.lt_of_lt_of_le (h.sOld b h1) hb.size
  ·exact h1.2
 sNew:=fun b hb'=>by
  rcases hS b hb' with h1 | h1
  ·exact h.sNew b h1
  ·exact .inr h1.1
 form:=hF
 globs:=fun g l hg=>by
  obtain ⟨hs,cs,e,fz,hc,hl⟩:=h.globs g l hg
  exact ⟨k.keeps.sub _ hs,cs,e,fz,by rw[k.keeps.blk _ hs];exact hc,qw.mono k _ _ hl⟩
theorem Rel.ev(h:Rel D B0 w0 E st act w)(x:Operand):ig E w (ev st.f x) (act.eval x):=by
 cases x with
 | tmp t=>exact h.tmps t
 | const v=>simp only[Abs.ev,ig];rfl
 | global g=>simp only[Abs.ev,ig];rfl
 | func f =>
  simp only[Abs.ev,ig]
  exact ⟨[],[],rfl,by simp only[mq],by simp only[mq]⟩
theorem Rel.evs(h:Rel D B0 w0 E st act w):∀(xs:List Operand),mq E w (evs st.f xs) (xs.map act.eval)
 | []=>by simp only[Abs.evs,mq,List.map_nil]
 | x::r=>by
  simp only[Abs.evs,mq,List.map_cons]
  exact ⟨_,_,rfl,h.ev x,h.evs r⟩
end
end Go.Abs
end

section
namespace Go.Abs
open Go Go.RowKit
def agk(D:Ctx)(B0:Nat)(w0:W0)(st:ASt)(o:Oper)(eff:Eff):Prop :=
 ∀E act w,Rel D B0 w0 E st act w→(∀id,st.n≤id→id<eff.n→E.ρ id=none) →
  ∀(next:Act→World→Prop) (Q:Exit→Act→World→Prop),
   (∀E' w' u,Up E E' w w'→(∀id x,E'.ρ id=some x→E.ρ id=some x∨(st.n≤id∧id<eff.n)) →
    Rel D B0 w0 E' (st.app eff o.dst) (act.put o.dst u) w'→next (act.put o.dst u) w')→o.wp D.P act w next Q
section
variable {D:Ctx} {B0:Nat} {w0:W0} {st:ASt} {o:Oper}
theorem ko{a:AVal}(h:∀E act w,Rel D B0 w0 E st act w→∃u,(execOp act.eval o).run D.P w=.ok (.value u) w∧ig E w a u) :
    agk D B0 w0 st o ⟨a,[],st.n⟩:=by
 intro E act w hR hn next Q hnext
 obtain ⟨u,hr,hu⟩:=h E act w hR
 unfold Oper.wp
 rw[hr,Oper.upon_value]
 exact hnext E w u (Up.refl _ _) (fun id x hx=>.inl hx) (hR.b23 hu _ _)
end
section
variable {D:Ctx} {B0:Nat} {w0:W0} {st:ASt} {dst:Option Tmp} {type:TypeId} {pos:String} {after:Array Edge} {guard:Option (Nat×Bool)}
theorem b4g(x:Operand):agk D B0 w0 st ⟨dst,.move x,type,pos,after,guard⟩ ⟨ev st.f x,[],st.n⟩ :=
 ko fun E act w h=>⟨act.eval x,rfl,h.ev x⟩
theorem byg(x:Operand):agk D B0 w0 st ⟨dst,.assign x,type,pos,after,guard⟩ ⟨ev st.f x,[],st.n⟩ :=
 ko fun E act w h=>⟨act.eval x,rfl,h.ev x⟩
theorem b4w(c a b:Operand){t:Bool}(hc:ev st.f c=.v (.bool t)) :
    agk D B0 w0 st ⟨dst,.pick c a b,type,pos,after,guard⟩ ⟨if t then ev st.f a else ev st.f b,[],st.n⟩ :=
 ko fun E act w h=>by
  have h1:=h.ev c
  rw[hc] at h1
  simp only[ig] at h1
  refine ⟨if t then act.eval a else act.eval b,?_,?_⟩
  ·simp[execOp,h1,asBool]
  ·cases t
   ·exact h.ev b
   ·exact h.ev a
end
theorem bzo{P:Program}{op:BinOp}{X Y:AVal}{K:AVal→Option R}{r:R}(h:cii op X Y K=some r) :
    ∃u v z,X=.v u∧Y=.v v∧K (.v z)=some r∧∀(xt:TypeId) (x y:Operand) (w:World),(do eqGuard op xt x y u v;binOp op xt u v:Sem Value).run P w=.ok z w:=by
 unfold cii at h
 split at h
 all_goals first
  | (rcases abm h with ⟨_,h⟩ | ⟨hb,h⟩
     ·cases h
     ·refine ⟨_,_,_,rfl,rfl,h,fun xt x y w=>?_⟩
      have hb':=of_decide_eq_false hb
      simp[go_sem,Op.shift,hb'])
  | (cases h;done)
  | skip
 all_goals (have h2:=(ap3 h).2;have hk:=(ap3 h).1;clear h;subst hk)
 all_goals first
  | (refine ⟨_,_,_,rfl,rfl,h2,fun xt x y w=>?_⟩
     simp[go_sem];done)
  | (rcases abm h2 with ⟨_,h⟩ | ⟨hb,h⟩
     ·cases h
     ·refine ⟨_,_,_,rfl,rfl,h,fun xt x y w=>?_⟩
      have hb':=of_decide_eq_false hb
      simp[go_sem,hb'])
section
variable {D:Ctx} {B0:Nat} {w0:W0} {st:ASt} {dst:Option Tmp} {type:TypeId} {pos:String} {after:Array Edge} {guard:Option (Nat×Bool)}
theorem b6k(t:TypeId)(x:Operand){b:Bool}(hx:ev st.f x=.v (.bool b)) :
    agk D B0 w0 st ⟨dst,.unOp .not t x,type,pos,after,guard⟩ ⟨.v (.bool !b),[],st.n⟩ :=
 ko fun E act w hR=>by
  have h1:=hR.ev x
  rw[hx] at h1
  simp only[ig] at h1
  exact ⟨.bool !b,by simp[execOp,h1,Op.unary],by simp only[ig]⟩
theorem b7j(t:TypeId)(x:Operand){k:IntKind}{a:Int}(hx:ev st.f x=.v (.int k a)) :
    agk D B0 w0 st ⟨dst,.unOp .neg t x,type,pos,after,guard⟩ ⟨.v (.int k (k.wrap (0-a))),[],st.n⟩ :=
 ko fun E act w hR=>by
  have h1:=hR.ev x
  rw[hx] at h1
  simp only[ig] at h1
  exact ⟨.int k (k.wrap (0-a)),by simp only[execOp,h1,Op.unary,Op.intArith,Sem.run_bind,Sem.run_pure,Result.andThen_ok],by simp only[ig]⟩
theorem bul(src tgt:TypeId)(x:Operand){k k':IntKind}{a:Int}(hx:ev st.f x=.v (.int k' a)){d:TypeDesc}(hs:D.P.underlying src=some d)(ht:D.P.underlying tgt=some (.int k)) :
    agk D B0 w0 st ⟨dst,.convert src tgt x,type,pos,after,guard⟩ ⟨.v (.int k (k.wrap a)),[],st.n⟩ :=
 ko fun E act w hR=>by
  have h1:=hR.ev x
  rw[hx] at h1
  simp only[ig] at h1
  refine ⟨_,?_,by simp only[ig];rfl⟩
  simp[execOp,h1,convert,run_underlying hs,run_underlying ht,Conv.intToInt]
theorem bur(x:Operand)(i:Nat){l:List AVal}(hx:ev st.f x=.tuple l)(hi:i<l.length) :
    agk D B0 w0 st ⟨dst,.extract x i,type,pos,after,guard⟩ ⟨l.getD i .bot,[],st.n⟩ :=
 ko fun E act w hR=>by
  have h1:=hR.ev x
  rw[hx] at h1
  simp only[ig] at h1
  obtain ⟨vs,hv,hl⟩:=h1
  have key:∀(l:List AVal) (vs:List Value) (i:Nat),mq E w l vs→i<l.length→∃u,vs[i]?=some u∧ig E w (l.getD i .bot) u:=by
   intro l
   induction l with
   | nil=>intro vs i _ hi;simp at hi
   | cons a r ih =>
    intro vs i h hi
    simp only[mq] at h
    obtain ⟨u,us,rfl,h2,h3⟩:=h
    cases i with
    | zero=>exact ⟨u,rfl,h2⟩
    | succ i =>
     obtain ⟨u',hu,hr⟩:=ih us i h3 (by simpa using hi)
     exact ⟨u',by simpa using hu,by simpa using hr⟩
  obtain ⟨u,hu,hr⟩:=key l vs i hl hi
  refine ⟨u,?_,hr⟩
  simp[execOp,hv,Instr.extract,hu]
theorem bdv(t:TypeId)(x:Operand){d:TypeDesc}(ht:D.P.underlying t=some d)(hd:∀ms,d≠.interface ms) :
    agk D B0 w0 st ⟨dst,.makeInterface t x,type,pos,after,guard⟩ ⟨.iface t (ev st.f x),[],st.n⟩ :=
 ko fun E act w hR=>by
  refine ⟨.iface t (act.eval x),?_,by simp only[ig];exact ⟨_,rfl,hR.ev x⟩⟩
  simp only[execOp,Instr.makeInterface,Sem.run_bind,run_underlying ht,Result.andThen_ok]
  cases d<;>first | rfl | exact absurd rfl (hd _)
theorem akx{E:Env}{w:World}:∀(l r:List AVal) (a b:List Value),mq E w l a→mq E w r b→mq E w (l++r) (a++b)
 | [],r,a,b,h,g=>by simp only[mq] at h;subst h;exact g
 | x::l,r,a,b,h,g=>by
  simp only[mq] at h
  obtain ⟨u,us,rfl,h1,h2⟩:=h
  simp only[List.cons_append,mq]
  exact ⟨u,us++b,rfl,h1,akx l r us b h2 g⟩
theorem b3h(f:List (Nat×AVal))(xs:List Operand):evs f xs=xs.map (ev f):=by
 induction xs with
 | nil=>rfl
 | cons x r ih=>simp[evs,ih]
theorem al3{E:Env}{w:World}:∀(l:List AVal) (vs:List Value),mq E w l vs→vs.length=l.length
 | [],vs,h=>by simp only[mq] at h;subst h;rfl
 | x::l,vs,h=>by
  simp only[mq] at h
  obtain ⟨u,us,rfl,h1,h2⟩:=h
  simp[al3 l us h2]
theorem brr(fn:Fn)(first caps:Array Operand) :
    agk D B0 w0 st ⟨dst,.makeFunc fn first caps,type,pos,after,guard⟩ ⟨.fn fn (evs st.f first.toList) (evs st.f caps.toList),[],st.n⟩ :=
 ko fun E act w hR=>by
  refine ⟨.func fn (first.map act.eval) (caps.map act.eval),rfl,?_⟩
  simp only[ig]
  exact ⟨_,_,by rw[←Array.toList_map,←Array.toList_map],hR.evs first.toList,hR.evs caps.toList⟩
theorem bqh(x:Operand)(hx:∀E act w,Rel D B0 w0 E st act w→(∃a,act.eval x=.pointer (some a))∨(∃f a b,act.eval x=.func (.func f) a b)∨(∃t v,act.eval x=.iface t v)) :
    agk D B0 w0 st ⟨dst,.nilCheck x,type,pos,after,guard⟩ ⟨ev st.f x,[],st.n⟩ :=
 ko fun E act w hR=>by
  refine ⟨act.eval x,?_,hR.ev x⟩
  rcases hx E act w hR with ⟨a,h⟩ | ⟨f,a,b,h⟩ | ⟨t,v,h⟩<;>simp[execOp,h]
end
end Go.Abs
end

section
namespace Go.Abs
open Go Go.RowKit
section
variable {P:Program} {w:World}
theorem bns{t:TypeId}{g:Bool}(h:ahb P t=some g):(isAgg t).run P w=.ok g w:=by
 unfold ahb at h
 unfold isAgg
 cases hu:P.underlying t with
 | none=>rw[hu] at h;cases h
 | some d =>
  rw[hu] at h
  simp only[Sem.run_bind,run_underlying hu,Result.andThen_ok]
  cases d<;>cases h<;>rfl
theorem blz{t:TypeId}{sz:Nat}(h:oo P t=some sz):∃i,P.info? t=some i∧i.size=sz:=by
 unfold oo at h
 cases hi:P.info? t with
 | none=>rw[hi] at h;cases h
 | some i=>rw[hi] at h;cases h;exact ⟨i,rfl,rfl⟩
theorem run_sizeOf{t:TypeId}{sz:Nat}(h:oo P t=some sz):(sizeOf t).run P w=.ok sz w:=by
 obtain ⟨i,hi,rfl⟩:=blz h
 simp[sizeOf,typeInfo,hi]
theorem run_loadCellsFrom(a:Addr):∀(cs:List Value) (i:Nat) (acc:Array Value),(∀j,j<cs.length→w.cell? (a.add (i+j))=cs[j]?) →
    (loadCellsFrom a i cs.length acc).run P w=.ok (acc++cs.toArray) w
 | [],i,acc,_=>by simp[loadCellsFrom]
 | c::r,i,acc,h=>by
  have h0:=h 0 (by simp)
  simp at h0
  have ih:=run_loadCellsFrom a r (i+1) (acc.push c) (fun j hj=>by
   have:=h (j+1) (by simpa using hj)
   rw[show i+1+j=i+(j+1) from by omega]
   simpa using this)
  simp only[List.length_cons,loadCellsFrom,Sem.run_bind,run_load,h0,Result.andThen_ok,ih]
  simp
theorem run_loadCells(a:Addr)(cs:List Value)(h:∀j,j<cs.length→w.cell? (a.add j)=cs[j]?) :
    (loadCells a cs.length).run P w=.ok cs.toArray w:=by
 unfold loadCells
 rw[run_loadCellsFrom a cs 0 #[] (by simpa using h)]
 simp
theorem baj{t:TypeId}{g:Bool}{sz:Nat}(hg:ahb P t=some g)(hs:oo P t=some sz)(a:Addr)(cs:List Value)(hl:cs.length=sz)
    (h:∀j,j<cs.length→w.cell? (a.add j)=cs[j]?) (u:Value) (hu:if g then u=.agg cs.toArray else cs=[u]) :
    (Instr.loadAt t (.pointer (some a))).run P w=.ok u w:=by
 simp only[Instr.loadAt,Instr.sureAddr,loadVar,Sem.run_bind,Sem.run_pure,Result.andThen_ok,bns hg]
 cases g with
 | true =>
  simp only[if_true] at hu ⊢
  subst hl hu
  simp only[Sem.run_bind,run_sizeOf hs,Result.andThen_ok,run_loadCells a cs h,Sem.run_pure]
 | false =>
  simp only[if_false,Bool.false_eq_true] at hu ⊢
  subst hu
  have:=h 0 (by simp)
  rw[add_block_zero] at this
  simp at this
  simp[this]
 where add_block_zero:a.add 0=a:=by simp[Addr.add]
end
section
variable {E:Env} {w:World}
theorem agj{l:List AVal}{cs:List Value}(h:qw E w l cs):ig E w (bdu l) (.agg cs.toArray):=by
 unfold bdu
 split
 ·rename_i k n z
  rcases y8 h with ⟨k',n',l',cs',he,h1,rfl,h3⟩ | ⟨ha,_⟩
  ·cases he
   simp only[qw] at h3
   subst h3
   simp only[ig]
   exact ⟨h1,by simp⟩
  ·exact absurd rfl (ha _ _ _)
 ·simp only[ig];exact ⟨cs,rfl,h⟩
theorem ak5{a:AVal}{cs:List Value}(h:qw E w [a] cs)(ha:∀k n l,a≠.arr k n l):∃u,cs=[u]∧u.oneCell'=true∧ig E w a u:=by
 rcases y8 h with ⟨k',n',l',cs',he,_⟩ | ⟨_,u,cs',rfl,h2,h3,h4⟩
 ·exact absurd he (ha _ _ _)
 ·simp only[qw] at h4;subst h4;exact ⟨u,rfl,h2,h3⟩
theorem ayb{l pre mid post:List AVal}{off sz:Nat}(hg:bn4 l off sz=some (pre,mid,post)){cs:List Value}(h:qw E w l cs) :
    ∃c1 c2 c3,cs=c1++(c2++c3)∧qw E w pre c1∧qw E w mid c2∧qw E w post c3∧c1.length=off∧c2.length=sz:=by
 obtain ⟨h1,h2,h3⟩:=bvu hg
 rw[h1] at h
 obtain ⟨c1,c',rfl,g1,g'⟩:=alu _ _ _ h
 obtain ⟨c2,c3,rfl,g2,g3⟩:=alu _ _ _ g'
 exact ⟨c1,c2,c3,rfl,g1,g2,g3,by rw[ai3 _ _ g1,h2],by rw[ai3 _ _ g2,h3]⟩
theorem awm{l pre post:List AVal}{off:Nat}(hg:ab3 l off=some (pre,post)){cs:List Value}(h:qw E w l cs) :
    ∃c1 c2,cs=c1++c2∧qw E w pre c1∧qw E w post c2∧c1.length=off:=by
 obtain ⟨h1,h2⟩:=agd _ _ _ _ hg
 rw[h1] at h
 obtain ⟨c1,c2,rfl,g1,g2⟩:=alu _ _ _ h
 exact ⟨c1,c2,rfl,g1,g2,by rw[ai3 _ _ g1,h2]⟩
theorem ab1{k:IntKind}{m:Nat}{z:List Int}{post:List AVal}{cs:List Value}(h:qw E w (.arr k m z::post) cs) :
    ∃cs',z.length=m∧cs=z.map (Value.int k)++cs'∧qw E w post cs':=by
 rcases y8 h with ⟨k',n',l',cs',he,h1,rfl,h3⟩ | ⟨ha,_⟩
 ·cases he;exact ⟨cs',h1,rfl,h3⟩
 ·exact absurd rfl (ha _ _ _)
end
theorem ae7{w:World}{b:Nat}{cs:Array Value}{e:TypeId}{fz:Nat×Nat}(h:w.heap[b]?=some (.cells cs e fz))(j:Nat):w.cell? ⟨b,j,none⟩=cs[j]? :=
 cell_of_row w b j cs e fz h
theorem ac5{w:World}{base:Nat}{e:TypeId}{size n:Nat}{v:Value}{xs:List Value}(h:w.ownsRow base e size v n xs){a:Addr}{n' cap:Nat}(hv:v=.slice (some a) n' cap) :
    n'=n∧n≤cap∧(∃g,a=⟨g,0,none⟩)∧∀j,j<xs.length→w.cell? (a.add j)=xs[j]?:=by
 rcases h.2 with ⟨hn,_⟩ | ⟨g,cap',cur,hv',hb,hg,hn,hm,hc,ht⟩
 ·rw[hv] at hn;cases hn
 ·rw[hv] at hv'
  cases hv'
  refine ⟨rfl,hn,⟨g,rfl⟩,fun j hj=>?_⟩
  rw[y5,ae7 hg]
  have:xs[j]?=some xs[j]:=Ad hj
  have h2:=h.cells (g:=g) (by simp[hv,Value.ownBlock]) j xs[j] this
  rw[y5,ae7 hg] at h2
  rw[this,←h2]
theorem acs{w:World}{base:Nat}{e:TypeId}{size n:Nat}{v:Value}{xs:List Value}(h:w.ownsRow base e size v n xs){n' cap:Nat}(hv:v=.slice none n' cap):n=0∧n'=0∧cap=0:=by
 rcases h.2 with ⟨hn,h0⟩ | ⟨g,cap',cur,hv',_⟩
 ·rw[hv] at hn;cases hn;exact ⟨h0,rfl,rfl⟩
 ·rw[hv] at hv';cases hv'
section
variable {E:Env} {w:World}
theorem bjw{S:Nat→Prop}{c:Cont}{i:Nat}{x:Value}(h:cell1 S w c i x)(E:Env)(hS:E.S=S):x.oneCell'=true∧ig E w (c.ba3 i) x∧∀k n l,c.ba3 i≠.arr k n l:=by
 subst hS
 cases c with
 | ints k l=>simp only[cell1,anp] at h;subst h;exact ⟨rfl,by simp only[Cont.ba3,ig],by simp[Cont.ba3]⟩
 | rows k l =>
  simp only[cell1,au2,SlI] at h
  refine ⟨by obtain ⟨A,cap,rfl,_⟩:=h;rfl,?_,by simp[Cont.ba3]⟩
  simp only[Cont.ba3,ig,SlC,Cont.len,Cont.size]
  exact h
 | rows2 k l =>
  simp only[cell1,avo,SlR] at h
  refine ⟨by obtain ⟨A,cap,rfl,_⟩:=h;rfl,?_,by simp[Cont.ba3]⟩
  simp only[Cont.ba3,ig,SlC,Cont.len,Cont.size]
  exact h
 | cols n cs=>exact h.elim
theorem bkb(i:Nat):∀(cs:List Cont) (xs:List Value),xs.length=cs.length→(∀j (h:j<cs.length) x,xs[j]?=some x→cell1 E.S w cs[j] i x)→qw E w (Cont.azx cs i) xs
 | [],xs,hl,_=>by
  have:xs=[]:=List.eq_nil_of_length_eq_zero (by simpa using hl)
  subst this
  simp only[Cont.azx,qw]
 | c::r,[],hl,_=>by simp at hl
 | c::r,x::xs,hl,h=>by
  have h0:=h 0 (by simp) x rfl
  obtain ⟨h1,h2,h3⟩:=bjw h0 E rfl
  exact om h3 h1 h2 (bkb i r xs (by simpa using hl) fun j hj y hy=>h (j+1) (by simpa using hj) y (by simpa using hy))
theorem bs4{c:Cont}{i:Nat}{xs:List Value}(hl:xs.length=c.size)(h:∀j x,xs[j]?=some x→cellC E.S w c (i*c.size+j) x):qw E w (c.elem i) xs:=by
 have one:∀c:Cont,c.size=1→(∀n cs,c≠.cols n cs)→(∀j x,xs[j]?=some x→cell1 E.S w c (i*1+j) x)→xs.length=1→qw E w [c.ba3 i] xs:=by
  intro c h1 hc h hl
  match xs,hl with
  | [x],_ =>
   have h0:=h 0 x rfl
   simp at h0
   obtain ⟨g1,g2,g3⟩:=bjw h0 E rfl
   exact om g3 g1 g2 (by simp only[qw])
 cases c with
 | cols n cs =>
  simp only[Cont.size] at hl h
  refine bkb i cs xs hl fun j hj x hx=>?_
  obtain ⟨c,hc,hx'⟩:=h j x hx
  have hm:(i*cs.length+j)%cs.length=j:=by rw[Nat.mul_comm,Nat.mul_add_mod];exact Nat.mod_eq_of_lt hj
  have hd:(i*cs.length+j)/cs.length=i:=by rw[Nat.mul_comm,Nat.mul_add_div (by omega),Nat.div_eq_of_lt hj];simp
  rw[hm] at hc
  rw[hd] at hx'
  rw[Ad hj] at hc
  cases hc
  exact hx'
 | ints k l=>exact one (.ints k l) rfl (by simp) h hl
 | rows k l=>exact one (.rows k l) rfl (by simp) h hl
 | rows2 k l=>exact one (.rows2 k l) rfl (by simp) h hl
end
end Go.Abs
end

section
namespace Go.Abs
open Go Go.RowKit
def Place(E:Env)(w:World)(u:Value)(l:List AVal)(sz:Nat):Prop :=
 ∃a cs,u=.pointer (some a)∧qw E w l cs∧cs.length=sz∧∀j,j<cs.length→w.cell? (a.add j)=cs[j]?
section
variable {D:Ctx} {B0:Nat} {w0:W0} {E:Env} {st:ASt} {act:Act} {w:World}
theorem bw1{l:List AVal}{u:Value}(h:ig E w (.sta l) u){sz:Nat}(hs:(l.map bax).sum=sz):Place E w u l sz:=by
 simp only[ig] at h
 obtain ⟨a,cs,h1,h2,h3,h4⟩:=h
 exact ⟨a,cs,h1,h3,by rw[ai3 _ _ h3,hs],h4⟩
theorem bfs{l pre mid post:List AVal}{off sz:Nat}(hg:bn4 l off sz=some (pre,mid,post)){cs:List Value}(h:qw E w l cs)(a:Addr)
    (hc:∀j,j<cs.length→w.cell? (a.add j)=cs[j]?):∃c2,qw E w mid c2∧c2.length=sz∧∀j,j<c2.length→w.cell? ((a.add off).add j)=c2[j]?:=by
 obtain ⟨c1,c2,c3,rfl,g1,g2,g3,l1,l2⟩:=ayb hg h
 refine ⟨c2,g2,l2,fun j hj=>?_⟩
 rw[add_add,hc (off+j) (by simp;omega)]
 rw[Ab (by omega),Ac (by omega)]
 congr 1
 omega
theorem bvw{e:TypeId}{l pre mid post:List AVal}{id off sz:Nat}{f:Bool}(hb:bdm E w B0 id ⟨.box e l,f⟩)(hg:bn4 l off sz=some (pre,mid,post)){u:Value}(h:ig E w (.ptr id off) u) :
    Place E w u mid sz:=by
 simp only[ig] at h
 obtain ⟨b,h1,rfl⟩:=h
 obtain ⟨v,hv,⟨k,cs,rfl,hB,hh,hl⟩,_⟩:=hb
 rw[hv] at h1
 cases h1
 obtain ⟨c2,g1,g2,g3⟩:=bfs hg hl ⟨b,0,none⟩ (fun j hj=>by rw[y5,ae7 hh];simp)
 exact ⟨⟨b,off,none⟩,c2,rfl,g1,g2,fun j hj=>by have:=g3 j hj;rw[y5] at this;simpa using this⟩
theorem bt5{l pre mid post:List AVal}{g off sz:Nat}(hgl:∃cs e fz,w.heap[g]?=some (.cells cs e fz)∧qw E w l cs.toList)(hg:bn4 l off sz=some (pre,mid,post)){u:Value}(h:ig E w (.glob g off) u) :
    Place E w u mid sz:=by
 simp only[ig] at h
 subst h
 obtain ⟨cs,e,fz,hh,hl⟩:=hgl
 obtain ⟨c2,g1,g2,g3⟩:=bfs hg hl ⟨g,0,none⟩ (fun j hj=>by rw[y5,ae7 hh];simp)
 exact ⟨⟨g,off,none⟩,c2,rfl,g1,g2,fun j hj=>by have:=g3 j hj;rw[y5] at this;simpa using this⟩
theorem bd6(c:Cont)(i:Nat):∀k n l,c.ba3 i≠.arr k n l:=by intro k n l;cases c<;>simp[Cont.ba3]
theorem boz:∀(cs:List Cont) (i o:Nat),∀k n l,bid (Cont.azx cs i) o≠.arr k n l
 | [],i,o=>by intro k n l;simp[Cont.azx,bid]
 | c::r,i,0=>by intro k n l;simp only[Cont.azx,bid];exact bd6 c i k n l
 | c::r,i,o+1=>by intro k n l;simp only[Cont.azx,bid];exact boz r i o k n l
theorem bwr(c:Cont)(i o:Nat):∀k n l,bid (c.elem i) o≠.arr k n l:=by
 have one:∀a:AVal,(∀k n l,a≠.arr k n l)→∀k n l,bid [a] o≠.arr k n l:=by
  intro a ha k n l
  cases o with
  | zero=>exact ha k n l
  | succ o=>simp[bid]
 cases c with
 | cols m cs=>exact boz cs i o
 | ints k l=>exact one _ (bd6 _ _)
 | rows k l=>exact one _ (bd6 _ _)
 | rows2 k l=>exact one _ (bd6 _ _)
theorem b0p(c:Cont)(i:Nat):(c.elem i).length=c.size:=by
 cases c with
 | cols m cs =>
  simp only[Cont.elem,Cont.size]
  induction cs with
  | nil=>rfl
  | cons c r ih=>simp[Cont.azx,ih]
 | _=>rfl
theorem btb{E:Env}{w:World}:∀(p:List AVal) (cs:List Value) (o:Nat),(∀o k n l,bid p o≠.arr k n l)→qw E w p cs→o<p.length→∃x,cs[o]?=some x∧x.oneCell'=true∧ig E w (bid p o) x
 | [],cs,o,_,h,ho=>by simp at ho
 | a::r,cs,o,hn,h,ho=>by
  have ha:∀k n l,a≠.arr k n l:=fun k n l=>by simpa [bid] using hn 0 k n l
  have h':∃u cs',cs=u::cs'∧u.oneCell'=true∧ig E w a u∧qw E w r cs':=by
   cases a<;>first | (exact absurd rfl (ha _ _ _)) | (simpa only[qw] using h)
  obtain ⟨u,cs',rfl,h1,h2,h3⟩:=h'
  cases o with
  | zero=>exact ⟨u,rfl,h1,h2⟩
  | succ o =>
   obtain ⟨x,g1,g2⟩:=btb r cs' o (fun o k n l=>by simpa [bid] using hn (o+1) k n l) h3 (by simpa using ho)
   exact ⟨x,by simpa using g1,by simpa [bid] using g2⟩
theorem bpp{e:TypeId}{c:Cont}{id i:Nat}{f:Bool}(hb:bdm E w B0 id ⟨.row e c,f⟩){u:Value}(h:ig E w (.pel id c.size i) u) :
    Place E w u (c.elem i) c.size:=by
 simp only[ig] at h
 obtain ⟨a,n,cap,h1,hi,rfl⟩:=h
 obtain ⟨v,hv,⟨xs,ho,hx⟩,_⟩:=hb
 rw[hv] at h1
 cases h1
 obtain ⟨rfl,hcap,⟨g,rfl⟩,hcell⟩:=ac5 ho rfl
 have hxl:xs.length=c.len*c.size:=ho.1
 have hle:i*c.size+c.size≤xs.length:=by rw[hxl,←Nat.succ_mul];exact Nat.mul_le_mul_right _ hi
 have hlen:((xs.drop (i*c.size)).take c.size).length=c.size:=by simp;omega
 refine ⟨_,(xs.drop (i*c.size)).take c.size,rfl,bs4 hlen fun j x hj=>?_,hlen,fun j hj=>?_⟩
 ·have hjl:j<c.size:=by
    have:=(List.getElem?_eq_some_iff.1 hj).1
    omega
  rw[List.getElem?_take,if_pos hjl,Ah] at hj
  exact (hx _ x hj).2
 ·rw[hlen] at hj
  rw[add_add,hcell _ (by omega),List.getElem?_take,if_pos hj,Ah]
theorem bw7{e:TypeId}{c:Cont}{id i o:Nat}{f:Bool}(hb:bdm E w B0 id ⟨.row e c,f⟩){u:Value}(h:ig E w (.fel id c.size i o) u) :
    Place E w u [bid (c.elem i) o] 1:=by
 simp only[ig] at h
 obtain ⟨a,n,cap,h1,hi,ho,rfl⟩:=h
 have hp:=bpp hb (u:=.pointer (some (a.add (i*c.size)))) (i:=i) (by simp only[ig];exact ⟨a,n,cap,h1,hi,rfl⟩)
 obtain ⟨a',cs,g1,g2,g3,g4⟩:=hp
 cases g1
 obtain ⟨x,k1,k2,k3⟩:=btb _ cs o (fun o=>bwr c i o) g2 (by rw[b0p];exact ho)
 refine ⟨_,[x],rfl,?_,rfl,fun j hj=>?_⟩
 ·have ha:=bwr c i o
  cases hc:bid (c.elem i) o<;>rw[hc] at k3 ha<;>first | (exact absurd rfl (ha _ _ _)) | (simp only[qw];exact ⟨x,[],rfl,k2,k3,rfl⟩)
 ·have hj0:j=0:=by simp at hj;omega
  subst hj0
  have:=g4 o (by rw[g3];exact ho)
  rw[add_add] at this ⊢
  simpa [k1] using this
theorem bt4{e:TypeId}{k:IntKind}{m:Nat}{z:List Int}{l pre post:List AVal}{id off i:Nat}{f:Bool}(hb:bdm E w B0 id ⟨.box e l,f⟩)(hs:ab3 l off=some (pre,.arr k m z::post)){u:Value}
    (h:ig E w (.apel id off m i) u):Place E w u [.v (.int k (z.getD i 0))] 1:=by
 simp only[ig] at h
 obtain ⟨b,h1,hi,rfl⟩:=h
 obtain ⟨v,hv,⟨kb,cs,rfl,hB,hh,hl⟩,_⟩:=hb
 rw[hv] at h1
 cases h1
 obtain ⟨c1,c2,he,g1,g2,l1⟩:=awm hs hl
 obtain ⟨cs',hz,rfl,_⟩:=ab1 g2
 refine ⟨_,[.int k (z.getD i 0)],rfl,om (by simp) rfl (by simp only[ig]) (by simp only[qw]),rfl,fun j hj=>?_⟩
 have:j=0:=by simpa using hj
 subst this
 rw[show (⟨b,off+i,none⟩:Addr).add 0=⟨b,off+i,none⟩ from by simp[Addr.add],ae7 hh,←Af,he]
 rw[Ab (by omega),Ac (by simp;omega)]
 simp[l1,Ad (show i<z.length by omega)]
theorem bq2{e:TypeId}{k:IntKind}{m:Nat}{z:List Int}{l pre post:List AVal}{id off i len:Nat}{f:Bool}(hb:bdm E w B0 id ⟨.box e l,f⟩)(hs:ab3 l off=some (pre,.arr k m z::post)){u:Value}
    (h:ig E w (.apel id off m i) u) (hle:i+len≤m):Place E w u [.arr k len ((z.drop i).take len)] len:=by
 simp only[ig] at h
 obtain ⟨b,h1,hi,rfl⟩:=h
 obtain ⟨v,hv,⟨kb,cs,rfl,hB,hh,hl⟩,_⟩:=hb
 rw[hv] at h1
 cases h1
 obtain ⟨c1,c2,he,g1,g2,l1⟩:=awm hs hl
 obtain ⟨cs',hz,rfl,_⟩:=ab1 g2
 have hlen:((z.drop i).take len).length=len:=by simp only[List.length_take,List.length_drop];omega
 have hr:=abo (E:=E) (w:=w) (k:=k) (r:=[]) (cs':=[]) hlen (by simp only[qw])
 rw[List.append_nil] at hr
 refine ⟨_,_,rfl,hr,by rw[Aj,hlen],fun j hj=>?_⟩
 simp only[Aj,hlen] at hj
 rw[y5,ae7 hh,←Af,he]
 rw[Ab (by omega),Ac (by simp;omega)]
 rw[show off+i+j-c1.length=i+j by omega,Ai,Ai,Al hj,Ah]
theorem byd{k:IntKind}{m:Nat}{z:List Int}{l pre post:List AVal}{g off i:Nat}(hgl:∃cs e fz,w.heap[g]?=some (.cells cs e fz)∧qw E w l cs.toList)(hs:ab3 l off=some (pre,.arr k m z::post)){u:Value}
    (h:ig E w (.gel g off m i) u):Place E w u [.v (.int k (z.getD i 0))] 1:=by
 simp only[ig] at h
 obtain ⟨hi,rfl⟩:=h
 obtain ⟨cs,e,fz,hh,hl⟩:=hgl
 obtain ⟨c1,c2,he,g1,g2,l1⟩:=awm hs hl
 obtain ⟨cs',hz,rfl,_⟩:=ab1 g2
 refine ⟨_,[.int k (z.getD i 0)],rfl,om (by simp) rfl (by simp only[ig]) (by simp only[qw]),rfl,fun j hj=>?_⟩
 have:j=0:=by simpa using hj
 subst this
 rw[show (⟨g,off+i,none⟩:Addr).add 0=⟨g,off+i,none⟩ from by simp[Addr.add],ae7 hh,←Af,he]
 rw[Ab (by omega),Ac (by simp;omega)]
 simp[l1,Ad (show i<z.length by omega)]
theorem bt3{k:IntKind}{m:Nat}{z:List Int}{l pre post:List AVal}{g off i len:Nat}(hgl:∃cs e fz,w.heap[g]?=some (.cells cs e fz)∧qw E w l cs.toList)(hs:ab3 l off=some (pre,.arr k m z::post)){u:Value}
    (h:ig E w (.gel g off m i) u) (hle:i+len≤m):Place E w u [.arr k len ((z.drop i).take len)] len:=by
 simp only[ig] at h
 obtain ⟨hi,rfl⟩:=h
 obtain ⟨cs,e,fz,hh,hl⟩:=hgl
 obtain ⟨c1,c2,he,g1,g2,l1⟩:=awm hs hl
 obtain ⟨cs',hz,rfl,_⟩:=ab1 g2
 have hlen:((z.drop i).take len).length=len:=by simp only[List.length_take,List.length_drop];omega
 have hr:=abo (E:=E) (w:=w) (k:=k) (r:=[]) (cs':=[]) hlen (by simp only[qw])
 rw[List.append_nil] at hr
 refine ⟨_,_,rfl,hr,by rw[Aj,hlen],fun j hj=>?_⟩
 simp only[Aj,hlen] at hj
 rw[y5,ae7 hh,←Af,he]
 rw[Ab (by omega),Ac (by simp;omega)]
 rw[show off+i+j-c1.length=i+j by omega,Ai,Ai,Al hj,Ah]
end
section
variable {D:Ctx} {B0:Nat} {w0:W0} {st:ASt} {dst:Option Tmp} {type:TypeId} {pos:String} {after:Array Edge} {guard:Option (Nat×Bool)}
theorem awj(t:TypeId)(x:Operand){l:List AVal}{sz:Nat}(hg:ahb D.P t=some true)(hs:oo D.P t=some sz)
    (hp:∀E act w,Rel D B0 w0 E st act w→Place E w (act.eval x) l sz) :
    agk D B0 w0 st ⟨dst,.load t x,type,pos,after,guard⟩ ⟨bdu l,[],st.n⟩ :=
 ko fun E act w hR=>by
  obtain ⟨a,cs,hu,hl,hsz,hc⟩:=hp E act w hR
  refine ⟨.agg cs.toArray,?_,agj hl⟩
  simp only[execOp,hu,Sem.run_bind,baj hg hs a cs hsz hc (.agg cs.toArray) (by simp),Result.andThen_ok,Sem.run_pure]
theorem bp7(t:TypeId)(x:Operand){a:AVal}(hg:ahb D.P t=some false){sz:Nat}(hs:oo D.P t=some sz)(ha:∀k n l,a≠.arr k n l)
    (hp:∀E act w,Rel D B0 w0 E st act w→Place E w (act.eval x) [a] sz) :
    agk D B0 w0 st ⟨dst,.load t x,type,pos,after,guard⟩ ⟨a,[],st.n⟩ :=
 ko fun E act w hR=>by
  obtain ⟨ad,cs,hu,hl,hsz,hc⟩:=hp E act w hR
  obtain ⟨u,rfl,_,hv⟩:=ak5 hl ha
  refine ⟨u,?_,hv⟩
  simp only[execOp,hu,Sem.run_bind,baj hg hs ad [u] hsz hc u (by simp),Result.andThen_ok,Sem.run_pure]
end
end Go.Abs
end
