/-
  SlhRight, part 1: lemmas for the law.
-/

import Derived.Orders
import Derived.Laws.Entries
import Derived.Laws.AppendOwn
import Derived.Laws.AppendOwnNone
import Derived.Below
open Nat renaming beq → Aa, blt → Ae
open List renaming getElem?_append_right → Ab, getElem?_append_left → Ac, getElem?_eq_getElem → Ad, getElem?_drop → Ah, getElem?_map → Ai, length_map → Aj, replicate → Ak, getElem?_take_of_lt → Al
open Array renaming getElem?_toList → Af
open Bool renaming and_eq_true → Ag
set_option linter.unusedVariables false
set_option linter.unusedSimpArgs false

section
def Go.bhy{α:Type}(n:Nat)(l:List α)(d:α):List α:=l.take n++Ak (n-l.length) d
namespace Go.Abs
open Go
inductive Cont where
 | ints (k:IntKind) (l:List Int)
 | rows (k:IntKind) (l:List (List Int))
 | rows2 (k:IntKind) (l:List (List (List Int)))
 | cols (n:Nat) (cs:List Cont)
inductive AVal where
 | v (x:Value)
 | bot
 | sl (c:Cont)
 | own (id:Nat)
 | win (id:Nat) (off len:Nat)
 | awin (id off m lo len:Nat)
 | arr (k:IntKind) (n:Nat) (l:List Int)
 | agg (l:List AVal)
 | ptr (id off:Nat)
 | pel (id sz i:Nat)
 | apel (id off m i:Nat)
 | fel (id sz i off:Nat)
 | sta (l:List AVal)
 | osta (t:Nat) (l:List AVal)
 | fn (f:Fn) (first caps:List AVal)
 | iface (t:TypeId) (x:AVal)
 | tuple (l:List AVal)
 | fr (e:TypeId) (c:Cont)
 | glob (g off:Nat)
 | gel (g off m i:Nat)
 | yld (id:Nat) (ts:List Nat) (vs:List AVal)
 | alt (t:Nat) (f:Fn) (fa fc:List AVal) (g:Fn) (ga gc:List AVal)
inductive Bk where
 | row (e:TypeId) (c:Cont)
 | box (e:TypeId) (l:List AVal)
structure Blk where
 b:Bk
 frz:Bool
@[irreducible] def br {α:Type} (b:Bool) (x y:α):α:=cond b x y
mutual
def mentions(id:Nat):AVal→Bool
 | .own j | .win j _ _ | .awin j _ _ _ _ | .ptr j _ | .pel j _ _ | .apel j _ _ _ | .fel j _ _ _=>Aa id j
 | .agg l | .sta l | .tuple l | .osta _ l=>qx id l
 | .fn _ a b=>qx id a||qx id b
 | .iface _ x=>mentions id x
 | .yld j _ l=>Aa id j||qx id l
 | .alt _ _ a b _ c d=>(qx id a||qx id b)||(qx id c||qx id d)
 | _=>false
def qx(id:Nat):List AVal→Bool
 | []=>false
 | a::r=>mentions id a||qx id r
end
def ru{α:Type}:List α→List α→List α
 | [],l=>l
 | a::r,l=>a::ru r l
mutual
def vk:AVal→List Nat
 | .own j | .win j _ _ | .awin j _ _ _ _=>[j]
 | .agg l | .tuple l=>qp l
 | .fn _ a b=>ru (qp a) (qp b)
 | .iface _ x=>vk x
 | .alt _ _ a b _ c d=>ru (ru (qp a) (qp b)) (ru (qp c) (qp d))
 | _=>[]
def qp:List AVal→List Nat
 | []=>[]
 | a::r=>ru (vk a) (qp r)
end
abbrev Hp:=List (Nat×Option Blk)
def look:List (Nat×AVal)→Nat→AVal
 | [],_=>.bot
 | (k,a)::r,t=>bif Aa k t then a else look r t
def gq:Hp→Nat→Option Blk
 | [],_=>none
 | (k,b)::r,t=>bif Aa k t then b else gq r t
structure ASt where
 f:List (Nat×AVal)
 h:Hp
 n:Nat
 m:Nat
inductive AExit where
 | normal
 | exit (id:Nat)
 | ret
abbrev R:=AVal
abbrev Spec:=List AVal→(AVal→Option R)→Option R
inductive Sh where
 | any
 | sl (c:Cont)
 | fr (e:TypeId) (c:Cont)
 | agg (l:List Sh)
 | alt (f:Fn) (fa fc:List AVal) (g:Fn) (ga gc:List AVal)
structure Hint where
 keep:List Nat
 rows:List (Nat×TypeId×Cont)
 boxes:List Nat
 sls:List (Nat×Sh):=[]
 gc:Option (Nat×List Nat):=none
 shb:List Nat:=[]
 shc:List (Nat×List Sh):=[]
 osb:List (Nat×List AVal):=[]
abbrev axf:=List AVal→Hp→Nat→(AVal→Hp→Nat→Option R)→Option R
abbrev za:=ASt→(AExit→ASt→Option R)→Option R
abbrev bq6:=List Nat→List AVal→List AVal→Hp→Nat→(Hp→Nat→Option R)→Option R
structure YCtx where
 ps:Array Tmp
 assign:Code
 body:Code
 m:Nat
 ready:Bool
structure RngE where
 g:Nat
 m:Nat
 ts:List Nat
 s:axf
structure Ctx where
 P:Program
 G:List (Nat×Spec)
 globs:List (Nat×List AVal)
 hints:List (Nat×Hint)
 loops:List (Nat×za)
 inl:List (Nat×axf):=[]
 top:Bool:=false
 y:Option YCtx:=none
 ys:Option bq6:=none
 rng:List (Nat×RngE):=[]
 sta:Bool:=false
def assoc{α:Type}:List (Nat×α)→Nat→Option α
 | [],_=>none
 | (k,b)::r,t=>bif Aa k t then some b else assoc r t
def aqm:List (Nat×Spec)→Nat→Option Spec
 | [],_=>none
 | (k,b)::r,t=>bif Aa k t then some b else aqm r t
def apa:IntKind→IntKind→Bool
 | .i8,.i8 | .i16,.i16 | .i32,.i32 | .i64,.i64 | .u8,.u8 | .u16,.u16 | .u32,.u32 | .u64,.u64=>true
 | _,_=>false
namespace Cont
def len:Cont→Nat
 | .ints _ l=>l.length
 | .rows _ l=>l.length
 | .rows2 _ l=>l.length
 | .cols n _=>n
def size:Cont→Nat
 | .cols _ cs=>cs.length
 | _=>1
def ar4:Cont→Nat→AVal
 | .ints k l,i=>.v (.int k (l.getD i 0))
 | .rows k l,i=>.sl (.ints k (l.getD i []))
 | .rows2 k l,i=>.sl (.rows k (l.getD i []))
 | .cols _ _,_=>.bot
def aq0:List Cont→Nat→List AVal
 | [],_=>[]
 | c::r,i=>c.ar4 i::aq0 r i
def elem:Cont→Nat→List AVal
 | .cols _ cs,i=>aq0 cs i
 | c,i=>[c.ar4 i]
def take1(n:Nat):Cont→Cont
 | .ints k l=>.ints k (l.take n)
 | .rows k l=>.rows k (l.take n)
 | .rows2 k l=>.rows2 k (l.take n)
 | .cols m cs=>.cols m cs
def takes(n:Nat):List Cont→List Cont
 | []=>[]
 | c::r=>c.take1 n::takes n r
def take(n:Nat):Cont→Cont
 | .cols m cs=>.cols (min n m) (takes n cs)
 | c=>c.take1 n
def app1(n:Nat):Cont→Cont→Option Cont
 | .ints k l,.ints k' l'=>bif apa k k' then some (.ints k (bhy n l 0++l')) else none
 | .rows k l,.rows k' l'=>bif apa k k' then some (.rows k (bhy n l []++l')) else none
 | _,_=>none
def apps(n:Nat):List Cont→List Cont→Option (List Cont)
 | [],[]=>some []
 | c::r,d::s=>match app1 n c d with
  | some x=>match apps n r s with
   | some y=>some (x::y)
   | none=>none
  | none=>none
 | _,_=>none
def app:Cont→Cont→Option Cont
 | .ints k l,.ints k' l'=>bif apa k k' then some (.ints k (l++l')) else none
 | .rows k l,.rows k' l'=>bif apa k k' then some (.rows k (l++l')) else none
 | .rows2 k l,.rows2 k' l'=>bif apa k k' then some (.rows2 k (l++l')) else none
 | .cols n cs,.cols m ds=>match apps n cs ds with
  | some l=>some (.cols (n+m) l)
  | none=>none
 | _,_=>none
def set:Cont→Nat→AVal→Option Cont
 | .ints k l,i,.v (.int k' a)=>bif apa k k' then some (.ints k (l.set i a)) else none
 | .rows k l,i,.sl (.ints k' a)=>bif apa k k' then some (.rows k (l.set i a)) else none
 | _,_,_=>none
end Cont
def arv:AVal→Nat
 | .arr _ n _=>n
 | _=>1
def aay:List AVal→Nat→Option (List AVal×List AVal)
 | l,0=>some ([],l)
 | [],_+1=>none
 | a::r,off+1 =>
  bif Nat.ble (arv a) (off+1) then
   match aay r (off+1-arv a) with
   | some (x,y)=>some (a::x,y)
   | none=>none
  else none
def bdf(l:List AVal)(off sz:Nat):Option (List AVal×List AVal×List AVal) :=
 match aay l off with
 | some (pre,rest)=>match aay rest sz with
  | some (mid,post)=>some (pre,mid,post)
  | none=>none
 | none=>none
def atw:List AVal→AVal
 | [.arr k n l]=>.arr k n l
 | l=>.agg l
def partsOf:AVal→Option (List AVal)
 | .agg l=>some l
 | .arr k n l=>some [.arr k n l]
 | .v (.agg _) | .v (.tuple _) | .bot | .tuple _ | .fr _ _=>none
 | a=>some [a]
def aex(P:Program)(t:TypeId):Option Bool :=
 match P.underlying t with
 | some (.struct _) | some (.array _ _)=>some true
 | some _=>some false
 | none=>none
def oh(P:Program)(t:TypeId):Option Nat:=(P.info? t).map (·.size)
def bgi(P:Program)(t:TypeId):Option Nat:=(P.info? t).map (·.bytes)
def ajf(k:IntKind):Nat→List Value→Option (List Int×List Value)
 | 0,r=>some ([],r)
 | n+1,.int k' x::r=>bif apa k k' then
     match ajf k n r with
     | some (l,r)=>some (x::l,r)
     | none=>none
  else none
 | _+1,_=>none
mutual
def comps(P:Program):Nat→TypeId→List Value→Option (List AVal×List Value)
 | 0,_,_=>none
 | d+1,t,cs =>
  match P.underlying t with
  | some (.struct fs)=>ayq P d fs.toList cs
  | some (.array n e)=>match P.underlying e with
   | some (.int k)=>match ajf k n cs with
    | some (l,r)=>some ([.arr k n l],r)
    | none=>none
   | _=>ayy P d e n cs
  | _=>match cs with
   | .agg _::_ | .tuple _::_ | []=>none
   | x::r=>some ([.v x],r)
def ayq(P:Program):Nat→List Field→List Value→Option (List AVal×List Value)
 | 0,_,_=>none
 | _+1,[],cs=>some ([],cs)
 | d+1,f::fs,cs=>match comps P d f.type cs with
  | some (a,cs)=>match ayq P d fs cs with
   | some (b,cs)=>some (ru a b,cs)
   | none=>none
  | none=>none
def ayy(P:Program):Nat→TypeId→Nat→List Value→Option (List AVal×List Value)
 | 0,_,_,_=>none
 | _+1,_,0,cs=>some ([],cs)
 | d+1,e,n+1,cs=>match comps P d e cs with
  | some (a,cs)=>match ayy P d e n cs with
   | some (b,cs)=>some (ru a b,cs)
   | none=>none
  | none=>none
end
def afc(P:Program)(t:TypeId):Option (List AVal) :=
 match P.info? t with
 | some i=>match i.zero with
  | some z=>match comps P 24 t z.cells.toList with
   | some (l,[])=>some l
   | _=>none
  | none=>none
 | none=>none
def ap2:List AVal→Option (List Value)
 | []=>some []
 | .v (.agg _)::_ | .v (.tuple _)::_=>none
 | .v x::r=>match ap2 r with
  | some l=>some (x::l)
  | none=>none
 | _::_=>none
def awk(P:Program)(t:TypeId)(l:List AVal):List AVal :=
 match ap2 l with
 | some cs=>match comps P 24 t cs with
  | some (l',[])=>l'
  | _=>l
 | none=>l
def amg:Op→List Operand
 | .move x | .assign x | .box _ x | .load _ x | .sliceToArrayPointer _ x | .nilCheck x | .unOp _ _ x | .convert _ _ x | .makeInterface _ x
 | .fieldAddr _ x _ | .field _ x _ | .typeAssert x _ _ _ | .extract x _=>[x]
 | .pick c a b=>[c,a,b]
 | .build _ ps | .buildSlice _ _ ps=>ps.toList.map (·.2)
 | .store _ a v | .binOp _ _ a v _ | .makeSlice _ a v | .indexAddr _ a v | .index _ a v=>[a,v]
 | .makeFunc _ first captured=>ru first.toList captured.toList
 | .slice _ x l h m=>x::ru l.toList (ru h.toList m.toList)
 | .call { callee:=.value f,args,.. }=>f::args.toList
 | .call { callee:=.invoke f _,args,.. }=>f::args.toList
 | .call { callee:=.builtin _,args,.. }=>args.toList
 | _=>[]
def ev(f:List (Nat×AVal)):Operand→AVal
 | .tmp t=>look f t
 | .const v=>.v v
 | .global g=>.glob g 0
 | .func g=>.fn (.func g) [] []
def evs(f:List (Nat×AVal)):List Operand→List AVal
 | []=>[]
 | x::r=>ev f x::evs f r
structure Eff where
 val:AVal
 puts:Hp
 n:Nat
def bql(m:Nat)(dst:Option Nat)(a:AVal)(f:List (Nat×AVal)):List (Nat×AVal) :=
 match dst with
 | none=>f
 | some t=>bif Ae t m then (t,a)::f else f
def ASt.put(st:ASt)(dst:Option Nat)(a:AVal):ASt:={ st with f:=bql st.m dst a st.f }
def ASt.app(st:ASt)(e:Eff)(dst:Option Nat):ASt :=
 { f:=bql st.m dst e.val st.f,h:=ru e.puts st.h,n:=e.n,m:=st.m }
def aj3(hl:Nat→Option Blk):AVal→Option Cont
 | .sl c=>some c
 | .own id=>match hl id with
  | some ⟨.row _ c,_⟩=>some c
  | _=>none
 | .win id off len=>match hl id with
  | some ⟨.row _ (.ints k l),_⟩=>some (.ints k ((l.drop off).take len))
  | some ⟨.row _ (.rows k l),_⟩=>some (.rows k ((l.drop off).take len))
  | some ⟨.row _ (.rows2 k l),_⟩=>some (.rows2 k ((l.drop off).take len))
  | _=>none
 | .awin id off m lo len=>match hl id with
  | some ⟨.box _ cs,_⟩=>match aay cs off with
   | some (_,.arr k m' l::_)=>bif Aa m m' then some (.ints k ((l.drop lo).take len)) else none
   | _=>none
  | _=>none
 | _=>none
def bl4(hl:Nat→Option Blk):AVal→Option Nat
 | .sl c=>some c.len
 | .own id=>match hl id with
  | some ⟨.row _ c,_⟩=>some c.len
  | _=>none
 | .win _ _ len=>some len
 | .awin _ _ _ _ len=>some len
 | .v (.slice none 0 0)=>some 0
 | _=>none
def kOk(k k':IntKind)(x:Option R):Option R:=bif apa k k' then x else none
def byr(op:BinOp)(x y:AVal)(K:AVal→Option R):Option R :=
 match op,x,y with
 | .shl,.v (.int k a),.v (.int _ b)=>br (decide (b<0)) none (K (.v (.int k (k.wrap (a*2^min b.toNat k.bits)))))
 | .shr,.v (.int k a),.v (.int _ b)=>br (decide (b<0)) none (K (.v (.int k (a.fdiv (2^min b.toNat k.bits)))))
 | .add,.v (.int k a),.v (.int k' b)=>kOk k k' (K (.v (.int k (k.wrap (a+b)))))
 | .sub,.v (.int k a),.v (.int k' b)=>kOk k k' (K (.v (.int k (k.wrap (a-b)))))
 | .mul,.v (.int k a),.v (.int k' b)=>kOk k k' (K (.v (.int k (k.wrap (a*b)))))
 | .quo,.v (.int k a),.v (.int k' b)=>kOk k k' (br (decide (b=0)) none (K (.v (.int k (k.wrap (a.tdiv b))))))
 | .rem,.v (.int k a),.v (.int k' b)=>kOk k k' (br (decide (b=0)) none (K (.v (.int k (a.tmod b)))))
 | .and,.v (.int k a),.v (.int k' b)=>kOk k k' (K (.v (.int k (bits .and k a b))))
 | .or,.v (.int k a),.v (.int k' b)=>kOk k k' (K (.v (.int k (bits .or k a b))))
 | .xor,.v (.int k a),.v (.int k' b)=>kOk k k' (K (.v (.int k (bits .xor k a b))))
 | .andNot,.v (.int k a),.v (.int k' b)=>kOk k k' (K (.v (.int k (bits .andNot k a b))))
 | .eql,.v (.int k a),.v (.int k' b)=>kOk k k' (K (.v (.bool (a==b))))
 | .neq,.v (.int k a),.v (.int k' b)=>kOk k k' (K (.v (.bool (a !=b))))
 | .lss,.v (.int k a),.v (.int k' b)=>kOk k k' (K (.v (.bool (decide (a<b)))))
 | .leq,.v (.int k a),.v (.int k' b)=>kOk k k' (K (.v (.bool (decide (a≤b)))))
 | .gtr,.v (.int k a),.v (.int k' b)=>kOk k k' (K (.v (.bool (decide (a>b)))))
 | .geq,.v (.int k a),.v (.int k' b)=>kOk k k' (K (.v (.bool (decide (a≥b)))))
 | _,_,_=>none
mutual
def bnd(n:Nat):AVal→Bool
 | .own j | .win j _ _ | .awin j _ _ _ _ | .ptr j _ | .pel j _ _ | .apel j _ _ _ | .fel j _ _ _=>Ae j n
 | .agg l | .sta l | .tuple l | .osta _ l=>ap7 n l
 | .fn _ a b=>ap7 n a&&ap7 n b
 | .iface _ x=>bnd n x
 | .yld j _ l=>Ae j n&&ap7 n l
 | .alt _ _ a b _ c d=>(ap7 n a&&ap7 n b)&&(ap7 n c&&ap7 n d)
 | _=>true
def ap7(n:Nat):List AVal→Bool
 | []=>true
 | a::r=>bnd n a&&ap7 n r
end
mutual
def zo(hl:Nat→Option Blk):AVal→AVal
 | .own id=>match aj3 hl (.own id) with
  | some c=>.sl c
  | none=>.bot
 | .win id off len=>match aj3 hl (.win id off len) with
  | some c=>.sl c
  | none=>.bot
 | .awin id off m lo len=>match aj3 hl (.awin id off m lo len) with
  | some c=>.sl c
  | none=>.bot
 | .ptr .. | .pel .. | .apel .. | .fel .. | .glob .. | .gel .. | .fr _ _ | .yld ..=>.bot
 | .sta l=>bif ap7 0 l then .sta l else .bot
 | .osta t l=>bif ap7 0 l then .osta t l else .bot
 | .alt t f a b g c d=>.alt t f (afk hl a) (afk hl b) g (afk hl c) (afk hl d)
 | .agg l=>.agg (afk hl l)
 | .tuple l=>.tuple (afk hl l)
 | .fn f a b=>.fn f (afk hl a) (afk hl b)
 | .iface t x=>.iface t (zo hl x)
 | a=>a
def afk(hl:Nat→Option Blk):List AVal→List AVal
 | []=>[]
 | a::r=>zo hl a::afk hl r
end
def bcd(c:Cont)(y:AVal):AVal→AVal
 | .v (.slice none 0 0)=>bif Aa c.len 0 then y else .v (.slice none 0 0)
 | a=>a
def ayf:Fn→Fn→Bool
 | .func a,.func b=>Aa a b
 | _,_=>false
def awh(f:Fn)(fa fc:List AVal)(g:Fn)(ga gc:List AVal):AVal→AVal
 | .fn h a c=>bif ayf h f then .alt 1 f a c g ga gc else bif ayf h g then .alt 2 f fa fc g a c else .fn h a c
 | .v .nilFunc=>.alt 0 f fa fc g ga gc
 | a=>a
mutual
def amf:Sh→AVal→AVal
 | .sl c,a=>bcd c (.sl c) a
 | .agg ss,.agg l=>.agg (o8 ss l)
 | .agg ss,.sta l=>.sta (o8 ss l)
 | .agg ss,.fn f a c=>.fn f a (o8 ss c)
 | .alt f fa fc g ga gc,a=>awh f fa fc g ga gc a
 | _,a=>a
def o8:List Sh→List AVal→List AVal
 | s::ss,a::r=>amf s a::o8 ss r
 | _,l=>l
end
mutual
def shares:AVal→Bool
 | .v _ | .bot | .arr .. | .fr _ (.ints ..)=>false
 | .agg l | .tuple l=>ase l
 | _=>true
def ase:List AVal→Bool
 | []=>false
 | a::r=>shares a||ase r
end
mutual
def imp:AVal→Nat→Hp→AVal×Nat×Hp
 | .fr e c,n,h=>(.own n,n+1,(n,some ⟨.row e c,false⟩)::h)
 | .agg l,n,h=>match anv l n h with | (l,n,h)=>(.agg l,n,h)
 | .tuple l,n,h=>match anv l n h with | (l,n,h)=>(.tuple l,n,h)
 | a,n,h=>(a,n,h)
def anv:List AVal→Nat→Hp→List AVal×Nat×Hp
 | [],n,h=>([],n,h)
 | a::r,n,h=>match imp a n h with
  | (a,n,h)=>match anv r n h with
   | (r,n,h)=>(a::r,n,h)
end
def atu(x:Nat):List Nat→Bool
 | []=>false
 | y::r=>Aa x y||atu x r
def freeze(hl:Nat→Option Blk):List Nat→Hp→Hp
 | [],h=>h
 | id::r,h=>match hl id with
  | some b=>(id,some ⟨b.b,true⟩)::freeze hl r h
  | none=>freeze hl r h
def bmy(s:Spec)(args:List AVal)(hl:Nat→Option Blk)(n:Nat)(K:Eff→Option R):Option R :=
 s (afk hl args) fun a =>
  match imp a n (bif shares a then freeze hl (qp args) [] else []) with
  | (a,n,h)=>K ⟨a,h,n⟩
def limit:Nat:=140737488355328
def anu(P:Program)(e:TypeId)(n:Nat):Option Cont :=
 match P.info? e with
 | some i=>bif Aa i.size 1 then
     match i.zero with
     | some (.int k (.ofNat 0))=>some (.ints k (Ak n 0))
     | some (.slice none 0 0)=>match P.underlying e with
      | some (.slice f)=>match P.underlying f with
       | some (.int k)=>some (.rows k (Ak n []))
       | some (.slice g)=>match P.underlying g with
        | some (.int k)=>some (.rows2 k (Ak n []))
        | _=>none
       | _=>none
      | _=>none
     | _=>none
  else none
 | none=>none
def aqb(k:IntKind):List AVal→Option (List Int)
 | []=>some []
 | .v (.int k' x)::r=>bif apa k k' then
     match aqb k r with
     | some l=>some (x::l)
     | none=>none
  else none
 | _=>none
def rowsOf(hl:Nat→Option Blk)(k:IntKind):List AVal→Option (List (List Int))
 | []=>some []
 | a::r=>match aj3 hl a with
  | some (.ints k' x)=>bif apa k k' then
      match rowsOf hl k r with
      | some l=>some (x::l)
      | none=>none
   else none
  | _=>match a with
   | .v (.slice none 0 0)=>match rowsOf hl k r with
    | some l=>some ([]::l)
    | none=>none
   | _=>none
def asg(hl:Nat→Option Blk)(k:IntKind):List AVal→Option (List (List (List Int)))
 | []=>some []
 | a::r=>match aj3 hl a with
  | some (.rows k' x)=>bif apa k k' then
      match asg hl k r with
      | some l=>some (x::l)
      | none=>none
   else none
  | _=>none
def asu(P:Program)(hl:Nat→Option Blk)(e:TypeId)(vs:List AVal):Option Cont :=
 match P.underlying e with
 | some (.int k)=>match aqb k vs with
  | some l=>some (.ints k l)
  | none=>none
 | some (.slice f)=>match P.underlying f with
  | some (.int k)=>match rowsOf hl k vs with
   | some l=>some (.rows k l)
   | none=>none
  | some (.slice g)=>match P.underlying g with
   | some (.int k)=>match asg hl k vs with
    | some l=>some (.rows2 k l)
    | none=>none
   | _=>none
  | _=>none
 | _=>none
def bgc(P:Program)(e:TypeId):Bool :=
 match P.info? e with
 | some i=>Aa i.size 1&&i.zero.isSome
 | none=>false
def aee:Nat→List (Nat×Operand)→Bool
 | _,[]=>true
 | i,(j,_)::r=>Aa i j&&aee (i+1) r
def aq4(i:Int):Nat→Nat→(Nat→Option R)→Option R
 | 0,_,_=>none
 | n+1,j,K=>br (decide (i=(j:Int))) (K j) (aq4 i n (j+1) K)
def bsk:Option Operand→List AVal→Option (Option Int×List AVal)
 | none,l=>some (none,l)
 | some _,.v (.int _ i)::r=>some (some i,r)
 | _,_=>none
def Cont.sub(l h:Nat):Cont→Option Cont
 | .ints k z=>some (.ints k ((z.take h).drop l))
 | .rows k z=>some (.rows k ((z.take h).drop l))
 | .rows2 k z=>some (.rows2 k ((z.take h).drop l))
 | .cols ..=>none
def bo4(hl:Nat→Option Blk)(x:AVal)(sz:Nat)(l h:Int)(len:Nat)(n:Nat)(mx:Option Int)(K:Eff→Option R):Option R :=
 match mx with
 | none=>match x with
  | .sl c=>match c.sub l.toNat h.toNat with
   | some c=>bif Aa sz 1 then K ⟨.sl c,[],n⟩ else none
   | none=>none
  | .own id=>bif Aa sz 1 then K ⟨.win id l.toNat (h-l).toNat,[],n⟩ else
      match l with
      | .ofNat 0=>K ⟨.win id 0 h.toNat,[],n⟩
      | _=>none
  | .win id off _=>match hl id with
   | some ⟨.row _ _,_⟩=>bif Aa sz 1 then K ⟨.win id (off+l.toNat) (h-l).toNat,[],n⟩ else none
   | _=>none
  | .awin id off m lo _=>bif Aa sz 1 then K ⟨.awin id off m (lo+l.toNat) (h-l).toNat,[],n⟩ else none
  | .v (.slice none 0 0)=>K ⟨.v (.slice none 0 0),[],n⟩
  | _=>none
 | some m=>bif Aa sz 1 then br (decide (h≤m)) (br (decide (m≤(len:Int))) (match aj3 hl x with
  | some c=>match c.sub l.toNat h.toNat with
   | some c=>K ⟨.sl c,freeze hl (vk x) [],n⟩
   | none=>none
  | none=>none) none) none else none
def b4m(mid:List AVal)(n:Nat)(K:Eff→Option R):Option R :=
 match mid with
 | [.arr ..]=>none
 | [a]=>K ⟨a,[],n⟩
 | _=>none
def bk7(g:Bool)(mid:List AVal)(n:Nat)(K:Eff→Option R):Option R :=
 bif g then K ⟨atw mid,[],n⟩ else b4m mid n K
def aw4:List AVal→Nat→AVal
 | [],_=>.bot
 | a::_,0=>a
 | _::r,n+1=>aw4 r n
def placeOf(D:Ctx)(hl:Nat→Option Blk)(x:AVal)(sz:Nat):Option (List AVal) :=
 match x with
 | .sta l=>match aay l sz with
  | some (mid,[])=>some mid
  | _=>none
 | .ptr id off=>match hl id with
  | some ⟨.box _ l,_⟩=>match bdf l off sz with
   | some (_,mid,_)=>some mid
   | none=>none
  | _=>none
 | .glob gl off=>match assoc D.globs gl with
  | some l=>match bdf l off sz with
   | some (_,mid,_)=>some mid
   | none=>none
  | none=>none
 | .pel id s i=>match hl id with
  | some ⟨.row _ c,_⟩=>bif Aa s c.size&&Aa s sz then some (c.elem i) else none
  | _=>none
 | .fel id s i o=>match hl id with
  | some ⟨.row _ c,_⟩=>bif Aa s c.size&&Aa 1 sz then some [aw4 (c.elem i) o] else none
  | _=>none
 | .apel id off m i=>match hl id with
  | some ⟨.box _ l,_⟩=>match aay l off with
   | some (_,.arr k m' z::_)=>bif Aa m m'&&Aa sz 1 then some [.v (.int k (z.getD i 0))] else none
   | _=>none
  | _=>none
 | .gel gl off m i=>match assoc D.globs gl with
  | some l=>match aay l off with
   | some (_,.arr k m' z::_)=>bif Aa m m'&&Aa sz 1 then some [.v (.int k (z.getD i 0))] else none
   | _=>none
  | none=>none
 | _=>none
def bd0(D:Ctx)(t:TypeId)(x:AVal)(hl:Nat→Option Blk)(n:Nat)(K:Eff→Option R):Option R :=
 match aex D.P t,oh D.P t with
 | some g,some sz=>match placeOf D hl x sz with
  | some mid=>bk7 g mid n K
  | none=>none
 | _,_=>none
def bf7(P:Program)(t:TypeId):Option Nat :=
 match P.underlying t with
 | some (.array n _)=>match aex P t,oh P t with
  | some true,some s=>bif Aa n s then some n else none
  | _,_=>none
 | _=>none
def bp0(D:Ctx)(t:TypeId)(x:AVal)(hl:Nat→Option Blk)(n:Nat)(K:Eff→Option R):Option R :=
 match x with
 | .osta q l=>br (decide (q=1)) (bd0 D t (.sta l) hl n K) none
 | .apel id off m i=>match bf7 D.P t with
  | some len=>match hl id with
   | some ⟨.box _ l,_⟩=>match aay l off with
    | some (_,.arr k m' z::_)=>bif Aa m m' then br (decide (i+len≤m)) (K ⟨.arr k len ((z.drop i).take len),[],n⟩) none else none
    | _=>none
   | _=>none
  | none=>bd0 D t (.apel id off m i) hl n K
 | .gel gl off m i=>match bf7 D.P t with
  | some len=>match assoc D.globs gl with
   | some l=>match aay l off with
    | some (_,.arr k m' z::_)=>bif Aa m m' then br (decide (i+len≤m)) (K ⟨.arr k len ((z.drop i).take len),[],n⟩) none else none
    | _=>none
   | none=>none
  | none=>bd0 D t (.gel gl off m i) hl n K
 | x=>bd0 D t x hl n K
def bju(D:Ctx)(t:TypeId)(x y:AVal)(hl:Nat→Option Blk)(n:Nat)(K:Eff→Option R):Option R :=
 match oh D.P t with
 | some sz=>match x with
  | .ptr id off=>match hl id,partsOf y with
   | some ⟨.box e l,false⟩,some p=>match bdf l off sz,aay p sz with
    | some (pre,_,post),some (p,[])=>K ⟨.bot,[(id,some ⟨.box e (ru pre (ru p post)),false⟩)],n⟩
    | _,_=>none
   | _,_=>none
  | .pel id s i=>match hl id with
   | some ⟨.row e c,false⟩=>bif Aa s 1&&Aa sz 1 && !atu id (vk y) then
       match c.set i (zo hl y) with
       | some c=>K ⟨.bot,(id,some ⟨.row e c,false⟩)::freeze hl (vk y) [],n⟩
       | none=>none
    else none
   | _=>none
  | .apel id off m i=>match hl id,y with
   | some ⟨.box e l,false⟩,.v (.int k' a)=>match aay l off with
    | some (pre,.arr k m' z::post)=>bif Aa m m'&&Aa sz 1 then kOk k k' (K ⟨.bot,[(id,some ⟨.box e (ru pre (.arr k m' (z.set i a)::post)),false⟩)],n⟩) else none
    | _=>none
   | _,_=>none
  | _=>none
 | none=>none
def ar9(D:Ctx)(s:TypeId)(x:AVal)(f:Nat)(n:Nat)(K:Eff→Option R):Option R :=
 match D.P.underlying s with
 | some (.struct fs)=>match fs[f]? with
  | some fd=>match oh D.P fd.type with
   | some (sz+1)=>match x with
    | .ptr id off=>K ⟨.ptr id (off+fd.offset),[],n⟩
    | .glob g off=>K ⟨.glob g (off+fd.offset),[],n⟩
    | .sta l=>match bdf l fd.offset (sz+1) with
     | some (_,mid,_)=>K ⟨.sta mid,[],n⟩
     | none=>none
    | .pel id s i=>bif Ae fd.offset s then K ⟨.fel id s i fd.offset,[],n⟩ else none
    | _=>none
   | _=>none
  | none=>none
 | _=>none
def bjx(D:Ctx)(s:TypeId)(l:List AVal)(f:Nat)(n:Nat)(K:Eff→Option R):Option R :=
 match D.P.underlying s with
 | some (.struct fs)=>match fs[f]? with
  | some fd=>match aex D.P fd.type,oh D.P fd.type with
   | some g,some sz=>match bdf l fd.offset sz with
    | some (_,mid,_)=>bk7 g mid n K
    | none=>none
   | _,_=>none
  | none=>none
 | _=>none
def within(i:Int)(len:Nat)(x:Option R):Option R:=br (decide (0≤i)) (br (decide (i<(len:Int))) x none) none
def bfo(x:AVal)(i:Int)(sz:Nat)(hl:Nat→Option Blk)(n:Nat)(K:Eff→Option R):Option R :=
 match x with
 | .sl c=>bif Aa c.size sz then within i c.len (K ⟨.sta (c.elem i.toNat),[],n⟩) else none
 | .own id=>match hl id with
  | some ⟨.row _ c,_⟩=>within i c.len (K ⟨.pel id sz i.toNat,[],n⟩)
  | _=>none
 | .win id off len=>match hl id with
  | some ⟨.row _ _,_⟩=>bif Aa sz 1 then within i len (K ⟨.pel id 1 (off+i.toNat),[],n⟩) else none
  | _=>none
 | .awin id off m lo len=>bif Aa sz 1 then within i len (K ⟨.apel id off m (lo+i.toNat),[],n⟩) else none
 | _=>none
def bfb(D:Ctx)(x:AVal)(i:Int)(m sz:Nat)(hl:Nat→Option Blk)(n:Nat)(K:Eff→Option R):Option R :=
 match x with
 | .ptr id off=>match hl id with
  | some ⟨.box _ l,_⟩=>match aay l off with
   | some (_,.arr _ m' _::_)=>bif Aa m m'&&Aa sz 1 then within i m (K ⟨.apel id off m i.toNat,[],n⟩) else aq4 i m 0 fun j=>K ⟨.ptr id (off+j*sz),[],n⟩
   | some _=>aq4 i m 0 fun j=>K ⟨.ptr id (off+j*sz),[],n⟩
   | none=>none
  | _=>none
 | .glob g off=>match assoc D.globs g with
  | some l=>match aay l off with
   | some (_,.arr _ m' _::_)=>bif Aa m m'&&Aa sz 1 then within i m (K ⟨.gel g off m i.toNat,[],n⟩) else
       bif Aa (m*sz) m'&&Ae 0 sz then within i m (K ⟨.gel g off m' (i.toNat*sz),[],n⟩) else aq4 i m 0 fun j=>K ⟨.glob g (off+j*sz),[],n⟩
   | some _=>aq4 i m 0 fun j=>K ⟨.glob g (off+j*sz),[],n⟩
   | none=>none
  | none=>none
 | .gel g off m' j=>bif Aa sz 1 then within i m (br (decide (j+i.toNat<m')) (K ⟨.gel g off m' (j+i.toNat),[],n⟩) none) else none
 | _=>none
def ar8(D:Ctx)(t:TypeId)(x:AVal)(i:Int)(hl:Nat→Option Blk)(n:Nat)(K:Eff→Option R):Option R :=
 match D.P.underlying t with
 | some (.slice e)=>match oh D.P e with
  | some sz=>bfo x i sz hl n K
  | none=>none
 | some (.array m e)=>match oh D.P e with
  | some sz=>bfb D x i m sz hl n K
  | none=>none
 | _=>none
def bko(D:Ctx)(t:TypeId)(x:AVal)(i:Int)(n:Nat)(K:Eff→Option R):Option R :=
 match D.P.underlying t with
 | some (.array m e)=>match oh D.P e,aex D.P e with
  | some sz,some g=>match x with
   | .arr k m' l=>bif Aa m m'&&Aa sz 1 && !g then within i m (K ⟨.v (.int k (l.getD i.toNat 0)),[],n⟩) else none
   | .agg l=>aq4 i m 0 fun j=>match bdf l (j*sz) sz with
    | some (_,mid,_)=>bk7 g mid n K
    | none=>none
   | _=>none
  | _,_=>none
 | _=>none
def ark(D:Ctx)(t:TypeId)(l c:Int)(n:Nat)(K:Eff→Option R):Option R :=
 match D.P.underlying t with
 | some (.slice e)=>match bgi D.P e with
  | some (by_+1)=>match anu D.P e l.toNat with
   | some ct=>br (decide (0≤l)) (br (decide (l≤c)) (br (decide (c*((by_+1:Nat):Int)≤(limit:Int))) (K ⟨.own n,[(n,some ⟨.row e ct,false⟩)],n+1⟩) none) none) none
   | none=>none
  | _=>none
 | _=>none
def apr(D:Ctx)(t:TypeId)(len:Nat)(ps:Array (Nat×Operand))(vs:List AVal)(hl:Nat→Option Blk)(n:Nat)(K:Eff→Option R):Option R :=
 match D.P.underlying t with
 | some (.slice e) =>
  bif aee 0 ps.toList&&Aa len ps.size&&Nat.ble len 16777216&&bgc D.P e then
   match asu D.P hl e vs with
   | some c=>K ⟨.own n,(n,some ⟨.row e c,false⟩)::freeze hl (qp vs) [],n+1⟩
   | none=>none
  else none
 | _=>none
def bg8:List AVal→Bool
 | []=>true
 | .arr ..::_=>false
 | _::r=>bg8 r
def ant(sz:Nat):List AVal→Option (List (List AVal))
 | []=>some []
 | v::r=>match partsOf v with
  | some p=>bif Aa p.length sz&&bg8 p then
      match ant sz r with
      | some l=>some (p::l)
      | none=>none
   else none
  | none=>none
def az0(j:Nat):List (List AVal)→List AVal
 | []=>[]
 | p::r=>aw4 p j::az0 j r
def ayp(P:Program)(hl:Nat→Option Blk)(rows:List (List AVal)):Nat→List Field→Option (List Cont)
 | _,[]=>some []
 | j,t::ts=>match asu P hl t.type (az0 j rows) with
  | some c=>match ayp P hl rows (j+1) ts with
   | some cs=>some (c::cs)
   | none=>none
  | none=>none
def bgs(D:Ctx)(t:TypeId)(len:Nat)(ps:Array (Nat×Operand))(vs:List AVal)(hl:Nat→Option Blk)(n:Nat)(K:Eff→Option R):Option R :=
 match D.P.underlying t with
 | some (.slice e)=>match D.P.info? e,D.P.underlying e with
  | some i,some (.struct fs) =>
   bif aee 0 ps.toList&&Aa len ps.size&&Nat.ble (len*i.size) 16777216&&Aa fs.size i.size&&Ae 0 i.size&&i.zero.isSome then
    match ant i.size vs with
    | some rows=>match ayp D.P hl rows 0 fs.toList with
     | some cs=>K ⟨.own n,(n,some ⟨.row e (.cols len cs),false⟩)::freeze hl (qp vs) [],n+1⟩
     | none=>none
    | none=>none
   else none
  | _,_=>none
 | _=>none
def bu5(P:Program)(t:TypeId):Bool :=
 match P.underlying t with
 | some (.slice e)=>match P.underlying e with
  | some (.struct _)=>true
  | _=>false
 | _=>false
def apv(D:Ctx)(t:TypeId)(len:Nat)(ps:Array (Nat×Operand))(vs:List AVal)(hl:Nat→Option Blk)(n:Nat)(K:Eff→Option R):Option R :=
 bif bu5 D.P t then bgs D t len ps vs hl n K else apr D t len ps vs hl n K
def bri(hl:Nat→Option Blk)(e:TypeId)(s:AVal):Option (Option Cont×Hp) :=
 match s with
 | .v (.slice none 0 0)=>some (none,[])
 | .own id=>match hl id with
  | some ⟨.row e' c,false⟩=>bif Aa e e' then some (some c,[(id,none)]) else none
  | _=>none
 | .win id 0 len=>match hl id with
  | some ⟨.row e' c,false⟩=>bif Aa e e' then some (some (c.take len),[(id,none)]) else none
  | _=>none
 | _=>none
def azh(i:TypeInfo):Bool :=
 match i.zero with
 | some z=>Aa z.cells.size i.size
 | none=>false
def bd7(D:Ctx)(t:TypeId)(s x:AVal)(hl:Nat→Option Blk)(n:Nat)(K:Eff→Option R):Option R :=
 match D.P.underlying t with
 | some (.slice e)=>match D.P.info? e with
  | some i=>bif Ae 0 i.size&&Ae 0 i.bytes&&azh i then
      match bri hl e s,aj3 hl x with
      | some (some c,dead),some cx=>match c.app cx with
       | some c'=>bif Aa c.size i.size then br (decide ((c.len+cx.len)*i.bytes≤limit)) (K ⟨.own n,(n,some ⟨.row e c',false⟩)::dead,n+1⟩) none else none
       | none=>none
      | some (none,dead),some cx=>bif Aa cx.size i.size then br (decide (cx.len*i.bytes≤limit)) (K ⟨.own n,(n,some ⟨.row e cx,false⟩)::dead,n+1⟩) none else none
      | _,_=>none
   else none
  | none=>none
 | _=>none
def azg(D:Ctx)(t:TypeId)(x:AVal)(lo hi mx:Option Int)(hl:Nat→Option Blk)(n:Nat)(K:Eff→Option R):Option R :=
 match D.P.underlying t with
 | some (.slice e)=>match oh D.P e,bl4 hl x with
  | some sz,some len =>
   match lo,hi,mx with
   | none,none,none=>K ⟨x,[],n⟩
   | _,none,some _=>none
   | _,_,_ =>
    br (decide (0≤lo.getD 0)) (br (decide (lo.getD 0≤hi.getD (len:Int))) (br (decide (hi.getD (len:Int)≤(len:Int)))
     (bo4 hl x sz (lo.getD 0) (hi.getD (len:Int)) len n mx K) none) none) none
  | _,_=>none
 | some (.array m e)=>match oh D.P e,x,mx with
  | some sz,.ptr id off,none =>
   bif Aa sz 1 then
    br (decide (0≤lo.getD 0)) (br (decide (lo.getD 0≤hi.getD (m:Int))) (br (decide (hi.getD (m:Int)≤(m:Int)))
     (K ⟨.awin id off m (lo.getD 0).toNat (hi.getD (m:Int)-lo.getD 0).toNat,[],n⟩) none) none) none
   else none
  | _,_,_=>none
 | _=>none
def bpu(D:Ctx)(t:TypeId)(x:AVal)(hl:Nat→Option Blk)(n:Nat)(K:Eff→Option R):Option R :=
 match D.P.underlying t with
 | some (.slice _)=>match bl4 hl x with
  | some m=>K ⟨.v (.int .i64 (m:Int)),[],n⟩
  | none=>none
 | _=>none
def as8(P:Program)(t:TypeId):Bool :=
 match P.underlying t with
 | some (.int _)=>true
 | _=>false
def bpc(P:Program)(t:TypeId):Bool :=
 match oh P t with
 | some s=>Aa s 1
 | none=>false
def az8(D:Ctx)(t t':TypeId)(s:AVal)(z:Int)(hl:Nat→Option Blk)(n:Nat)(K:Eff→Option R):Option R :=
 match D.P.underlying t with
 | some (.slice e)=>bif as8 D.P t' then
     match D.P.info? e with
     | some i=>bif Ae 0 i.bytes then
         match bri hl e s,anu D.P e z.toNat with
         | some (some c,dead),some cz=>match c.app cz with
          | some c'=>br (decide (0≤z)) (br (decide ((c.len+z.toNat)*i.bytes≤limit)) (K ⟨.own n,(n,some ⟨.row e c',false⟩)::dead,n+1⟩) none) none
          | none=>none
         | some (none,dead),some cz=>br (decide (0≤z)) (br (decide (z.toNat*i.bytes≤limit)) (K ⟨.own n,(n,some ⟨.row e cz,false⟩)::dead,n+1⟩) none) none
         | _,_=>none
      else none
     | none=>none
  else none
 | _=>none
def by5(D:Ctx)(t:TypeId)(x:AVal)(n:Nat)(K:Eff→Option R):Option R :=
 match D.P.underlying t,x with
 | some (.slice _),.v (.slice none 0 0)=>K ⟨.v (.int .i64 0),[],n⟩
 | _,_=>none
def bdi(P:Program)(t:TypeId):Bool :=
 match P.underlying t with
 | some .bool=>true
 | _=>false
def bo6(P:Program)(cs cs':List Value):List Field→Option Bool
 | []=>some true
 | f :: fs => bif as8 P f.type && !(f.name == "_") then
     match cs[f.offset]?,cs'[f.offset]? with
     | some (.int k a),some (.int k' b)=>bif apa k k' then
         match bo6 P cs cs' fs with
         | some r=>some ((a==b)&&r)
         | none=>none
      else none
     | _,_=>none
  else bif bdi P f.type && !(f.name == "_") then
   match cs[f.offset]?,cs'[f.offset]? with
   | some (.bool a),some (.bool b)=>match bo6 P cs cs' fs with
    | some r=>some ((a==b)&&r)
    | none=>none
   | _,_=>none
  else none
def eqX(D:Ctx)(t:TypeId)(x y:AVal)(hl:Nat→Option Blk)(K:Bool→Option R):Option R :=
 match D.P.underlying t with
 | some .bool=>match x,y with
  | .v (.bool a),.v (.bool b)=>K (a==b)
  | _,_=>none
 | some (.slice _)=>match x,y with
  | .v (.slice none 0 0),.v (.slice none 0 0)=>K true
  | x,.v (.slice none 0 0)=>match aj3 hl x with
   | some c=>br (decide (0<c.len)) (K false) none
   | none=>none
  | _,_=>none
 | some (.pointer _)=>match x,y with
  | .osta q _,.v (.pointer none)=>K (decide (q=0))
  | .v (.pointer none),.v (.pointer none)=>K true
  | .ptr _ _,.v (.pointer none)=>K false
  | .sta _,.v (.pointer none)=>K false
  | _,_=>none
 | some (.array m e)=>match x,y with
  | .arr k n l,.arr k' n' l'=>bif as8 D.P e&&bpc D.P e&&apa k k'&&Aa n m&&Aa n' m && !D.P.eqGuardType D.P.depth t then K (decide (l=l')) else none
  | _,_=>none
 | some (.struct fs)=>match x,y with
  | .agg l,.agg l'=>bif !D.P.stoodInHeld t && !D.P.eqGuardType D.P.depth t then
      match ap2 l,ap2 l' with
      | some cs,some cs'=>match bo6 D.P cs cs' fs.toList with
       | some b=>K b
       | none=>none
      | _,_=>none
   else none
  | _,_=>none
 | _=>none
def bzu(D:Ctx)(op:BinOp)(t:TypeId)(x y:AVal)(hl:Nat→Option Blk)(n:Nat)(K:Eff→Option R):Option R :=
 match x,y with
 | .v (.int k a),.v (.int k' b)=>byr op (.v (.int k a)) (.v (.int k' b)) fun a=>K ⟨a,[],n⟩
 | x,y=>match op with
  | .eql=>eqX D t x y hl fun b=>K ⟨.v (.bool b),[],n⟩
  | .neq=>eqX D t x y hl fun b=>K ⟨.v (.bool !b),[],n⟩
  | _=>none
def bhi(place:Nat→Option (Nat×Nat)):List AVal→List (Nat×Operand)→List AVal→Option (List AVal)
 | l,[],[]=>some l
 | l,(i,_)::ps,v::vs=>match place i with
  | none=>none
  | some (off,sz)=>match bdf l off sz,partsOf v with
   | some (pre,_,post),some p=>match aay p sz with
    | some (p,[])=>bhi place (ru pre (ru p post)) ps vs
    | _=>none
   | _,_=>none
 | _,_,_=>none
def bd5(P:Program)(fs:Array Field)(i:Nat):Option (Nat×Nat) :=
 match fs[i]? with
 | some f=>match oh P f.type with
  | some s=>some (f.offset,s)
  | none=>none
 | none=>none
def bkz(P:Program)(t:TypeId)(m:Nat):Bool :=
 match afc P t with
 | some [.arr _ n _]=>Aa n m
 | _=>false
def at1:List (Nat×Operand)→List Int→List Int→Option (List Int)
 | [],[],z=>some z
 | (i,_)::r,v::vs,z=>bif Ae i z.length then at1 r vs (z.set i v) else none
 | _,_,_=>none
def bke(D:Ctx)(t:TypeId)(ps:Array (Nat×Operand))(vs:List AVal)(n:Nat)(K:Eff→Option R):Option R :=
 match D.P.underlying t with
 | some (.struct fs)=>match afc D.P t with
  | some l=>bif !(fs.toList.all fun f=>(oh D.P f.type).isSome) then none else match bhi (bd5 D.P fs) l ps.toList vs with
   | some l=>K ⟨atw (awk D.P t l),[],n⟩
   | none=>none
  | none=>none
 | some (.array m e)=>match D.P.underlying e with
  | some (.int k)=>match aqb k vs with
   | some l=>bif aee 0 ps.toList&&Aa ps.size m&&Aa vs.length m&&bkz D.P t m&&bpc D.P e then K ⟨.arr k m l,[],n⟩ else
       match ps.toList,afc D.P t,oh D.P e with
       | [],some l,some _=>K ⟨atw l,[],n⟩
       | p::r,some [.arr k' m' z],some 1=>bif apa k k'&&Aa m' m then (match at1 (p::r) l z with
        | some z=>K ⟨.arr k m z,[],n⟩
        | none=>none) else none
       | _,_,_=>none
   | none=>none
  | _=>match afc D.P t,oh D.P e with
   | some l,some sz=>match bhi (fun i=>some (i*sz,sz)) l ps.toList vs with
    | some l=>K ⟨atw l,[],n⟩
    | none=>none
   | _,_=>none
 | _=>none
def cpy(z zs:List Int)(lo len:Nat):List Int:=z.take lo++(zs.take len++z.drop (lo+min len zs.length))
def bq3(D:Ctx)(t:TypeId)(x y:AVal)(hl:Nat→Option Blk)(n:Nat)(K:Eff→Option R):Option R :=
 match D.P.underlying t with
 | some (.slice e)=>bif bpc D.P e then
     match aj3 hl y with
     | some (.ints k' zs)=>match x with
      | .awin id off m lo len=>match hl id with
       | some ⟨.box et l,false⟩=>match aay l off with
        | some (pre,.arr k m' z::post)=>bif Aa m m' then kOk k k' (K ⟨.v (.int .i64 ((min len zs.length:Nat):Int)),[(id,some ⟨.box et (ru pre (.arr k m (cpy z zs lo len)::post)),false⟩)],n⟩) else none
        | _=>none
       | _=>none
      | .own id=>match hl id with
       | some ⟨.row et (.ints k z),false⟩=>kOk k k' (K ⟨.v (.int .i64 ((min z.length zs.length:Nat):Int)),[(id,some ⟨.row et (.ints k (cpy z zs 0 z.length)),false⟩)],n⟩)
       | _=>none
      | .win id off len=>match hl id with
       | some ⟨.row et (.ints k z),false⟩=>kOk k k' (K ⟨.v (.int .i64 ((min len zs.length:Nat):Int)),[(id,some ⟨.row et (.ints k (cpy z zs off len)),false⟩)],n⟩)
       | _=>none
      | _=>none
     | _=>none
  else none
 | _=>none
def bp8(D:Ctx)(c:Callee)(as:List Operand)(ts:List TypeId)(vs:List AVal)(hl:Nat→Option Blk)(n:Nat)(K:Eff→Option R):Option R :=
 match c,as,ts,vs with
 | .builtin .len,[_],t::_,[x]=>bpu D t x hl n K
 | .builtin .min,[_,_],_,[.v (.int k a),.v (.int _ b)]=>K ⟨.v (.int k (cond (decide (b<a)) b a)),[],n⟩
 | .builtin .max,[_,_],_,[.v (.int k a),.v (.int _ b)]=>K ⟨.v (.int k (cond (decide (b>a)) b a)),[],n⟩
 | .builtin .append,[_,_],[t,t'],[s,x]=>bif Aa t t' then bd7 D t s x hl n K else match x with
  | .v (.int _ z)=>az8 D t t' s z hl n K
  | _=>none
 | .builtin .cap,[_],t::_,[x]=>by5 D t x n K
 | .builtin .copy,[_,_],[t,_],[x,y]=>bq3 D t x y hl n K
 | .value _,_,_,.fn (.func g) first caps::args=>match aqm D.G g with
  | some s=>bmy s (ru first (ru args caps)) hl n K
  | none=>none
 | .value _,_,_,.alt t (.func f) fa fc (.func g) ga gc::args=>match aqm D.G f,aqm D.G g with
  | some s,some s'=>br (decide (t=1)) (bmy s (ru fa (ru args fc)) hl n K) (br (decide (t=2)) (bmy s' (ru ga (ru args gc)) hl n K) none)
  | _,_=>none
 | _,_,_,_=>none
def bgn(D:Ctx)(t:TypeId)(id:Nat)(hl:Nat→Option Blk)(n:Nat)(K:Eff→Option R):Option R :=
 match D.P.underlying t with
 | some (.slice e)=>match D.P.underlying e,hl id with
  | some (.int .u8),some ⟨.row _ (.ints k (a::l)),false⟩=>K ⟨.sl (.ints k (a::l)),[(id,none)],n⟩
  | _,_=>none
 | _=>none
def core(D:Ctx)(op:Op)(vs:List AVal)(hl:Nat→Option Blk)(n:Nat)(K:Eff→Option R):Option R :=
 match op,vs with
 | .move _,[x]=>K ⟨x,[],n⟩
 | .assign _,[x]=>K ⟨x,[],n⟩
 | .pick _ _ _,[.v (.bool t),a,b]=>br t (K ⟨a,[],n⟩) (K ⟨b,[],n⟩)
 | .alloc e,[]=>match afc D.P e with
  | some l=>K ⟨.ptr n 0,[(n,some ⟨.box e l,false⟩)],n+1⟩
  | none=>none
 | .box e _,[x]=>match partsOf x with
  | some l=>K ⟨.ptr n 0,[(n,some ⟨.box e (awk D.P e l),false⟩)],n+1⟩
  | none=>none
 | .buildSlice t len ps,vs=>apv D t len ps vs hl n K
 | .load t _,[x]=>bp0 D t x hl n K
 | .store t _ _,[x,y]=>bju D t x y hl n K
 | .nilCheck _,[x]=>match x with
  | .ptr .. | .pel .. | .apel .. | .fel .. | .sta _ | .glob .. | .gel .. | .fn (.func _) _ _ | .iface _ _=>K ⟨x,[],n⟩
  | .osta q l=>br (decide (q=1)) (K ⟨.osta q l,[],n⟩) none
  | _=>none
 | .binOp op t _ _ _,[x,y]=>bzu D op t x y hl n K
 | .build t ps,vs=>bke D t ps vs n K
 | .unOp .not _ _,[.v (.bool t)]=>K ⟨.v (.bool !t),[],n⟩
 | .unOp .neg _ _,[.v (.int k a)]=>K ⟨.v (.int k (k.wrap (0-a))),[],n⟩
 | .convert src dst _,[.v (.int _ a)]=>match D.P.underlying src,D.P.underlying dst with
  | some _,some (.int k)=>K ⟨.v (.int k (k.wrap a)),[],n⟩
  | _,_=>none
 | .convert src dst _,[.own id]=>bif Aa src dst then bgn D src id hl n K else none
 | .makeInterface t _,[x]=>match D.P.underlying t with
  | some (.interface _) | none=>none
  | some _=>K ⟨.iface t x,[],n⟩
 | .makeFunc fn first _,vs=>K ⟨.fn fn (vs.take first.size) (vs.drop first.size),[],n⟩
 | .extract _ i,[.tuple l]=>bif Ae i l.length then K ⟨l.getD i .bot,[],n⟩ else none
 | .slice t _ lo hi mx,x::rest=>match bsk lo rest with
  | some (lo,rest)=>match bsk hi rest with
   | some (hi,rest)=>match bsk mx rest with
    | some (mx,_)=>azg D t x lo hi mx hl n K
    | none=>none
   | none=>none
  | none=>none
 | .makeSlice t _ _,[.v (.int _ l),.v (.int _ c)]=>ark D t l c n K
 | .fieldAddr s _ f,[x]=>ar9 D s x f n K
 | .field s _ f,[.agg l]=>bjx D s l f n K
 | .indexAddr t _ _,[x,.v (.int _ i)]=>ar8 D t x i hl n K
 | .index t _ _,[x,.v (.int _ i)]=>bko D t x i n K
 | .sliceToArrayPointer t _,[.awin id off m lo len]=>match D.P.underlying t with
  | some (.array (k+1) _)=>br (decide (k+1≤len)) (K ⟨.apel id off m lo,[],n⟩) none
  | _=>none
 | .call c,vs=>bp8 D c.callee c.args.toList c.argTypes.toList vs hl n K
 | _,_=>none
def mask(vs:List AVal)(h:Hp)(id:Nat):Option Blk:=bif qx id vs then gq h id else none
def opA(D:Ctx)(o:Oper)(st:ASt)(K:Eff→Option R):Option R :=
 core D o.op (evs st.f (amg o.op)) (mask (evs st.f (amg o.op)) st.h) st.n K
end Go.Abs
end

section
namespace Go.Abs
open Go
structure Env where
 S:Nat→Prop
 ρ:Nat→Option Value
def beb(S:Nat→Prop)(w:World)(len sz:Nat)(cell:Nat→Value→Prop)(u:Value):Prop :=
 ∃A cap,u=.slice A len cap∧len≤cap ∧
  (0<len→∃a,A=some a∧S a.block∧∀j,j<len*sz→∃x,w.cell? (a.add j)=some x∧cell j x)
def aj2(k:IntKind)(l:List Int)(j:Nat)(x:Value):Prop:=x=.int k (l.getD j 0)
def SlI(S:Nat→Prop)(w:World)(k:IntKind)(l:List Int)(u:Value):Prop:=beb S w l.length 1 (aj2 k l) u
def an8(S:Nat→Prop)(w:World)(k:IntKind)(l:List (List Int))(j:Nat)(x:Value):Prop:=SlI S w k (l.getD j []) x
def SlR(S:Nat→Prop)(w:World)(k:IntKind)(l:List (List Int))(u:Value):Prop:=beb S w l.length 1 (an8 S w k l) u
def aoe(S:Nat→Prop)(w:World)(k:IntKind)(l:List (List (List Int)))(j:Nat)(x:Value):Prop:=SlR S w k (l.getD j []) x
def cell1(S:Nat→Prop)(w:World):Cont→Nat→Value→Prop
 | .ints k l=>aj2 k l
 | .rows k l=>an8 S w k l
 | .rows2 k l=>aoe S w k l
 | .cols _ _=>fun _ _=>False
def cellC(S:Nat→Prop)(w:World):Cont→Nat→Value→Prop
 | .cols _ cs=>fun j x=>∃c,cs[j%cs.length]?=some c∧cell1 S w c (j/cs.length) x
 | c=>cell1 S w c
def SlC(S:Nat→Prop)(w:World)(c:Cont)(u:Value):Prop:=beb S w c.len c.size (cellC S w c) u
structure Keeps (S S':Nat→Prop) (w w':World):Prop where
 sub:∀b,S b→S' b
 blk:∀b,S b→w'.heap[b]?=w.heap[b]?
theorem Keeps.refl(S:Nat→Prop)(w:World):Keeps S S w w:=⟨fun _ h=>h,fun _ _=>rfl⟩
theorem Keeps.trans{S S' S'':Nat→Prop}{w w' w'':World}(h:Keeps S S' w w')(k:Keeps S' S'' w' w''):Keeps S S'' w w'' :=
 ⟨fun b hb=>k.sub b (h.sub b hb),fun b hb=>(k.blk b (h.sub b hb)).trans (h.blk b hb)⟩
theorem Keeps.cell{S S':Nat→Prop}{w w':World}(h:Keeps S S' w w'){a:Addr}(ha:S a.block):w'.cell? a=w.cell? a :=
 World.cell?_of_block (h.blk a.block ha)
theorem add_block(a:Addr)(j:Nat):(a.add j).block=a.block:=by unfold Addr.add;split<;>rfl
theorem add_add(a:Addr)(i j:Nat):(a.add i).add j=a.add (i+j):=by
 unfold Addr.add
 by_cases hi:i=0
 ·subst hi;simp
 ·by_cases hj:j=0
  ·subst hj;simp
  ·rw[if_neg hi,if_neg hj,if_neg (by omega)];simp[Nat.add_assoc]
theorem w9(b o j:Nat):(⟨b,o,none⟩:Addr).add j=⟨b,o+j,none⟩:=Addr.add_lit b o j
theorem beb.mono{S S':Nat→Prop}{w w':World}{len sz:Nat}{cell cell':Nat→Value→Prop}{u:Value}(k:Keeps S S' w w')
    (hc:∀j x,j<len*sz→cell j x→cell' j x) (h:beb S w len sz cell u):beb S' w' len sz cell' u:=by
 obtain ⟨A,cap,hu,hl,hx⟩:=h
 refine ⟨A,cap,hu,hl,fun h0=>?_⟩
 obtain ⟨a,hA,hS,hcell⟩:=hx h0
 refine ⟨a,hA,k.sub _ hS,fun j hj=>?_⟩
 obtain ⟨x,hx1,hx2⟩:=hcell j hj
 exact ⟨x,by rw[k.cell (by rw[add_block];exact hS)];exact hx1,hc j x hj hx2⟩
theorem SlI.mono{S S':Nat→Prop}{w w':World}(k:Keeps S S' w w'){ki:IntKind}{l:List Int}{u:Value}(h:SlI S w ki l u):SlI S' w' ki l u :=
 beb.mono k (fun _ _ _ h=>h) h
theorem SlR.mono{S S':Nat→Prop}{w w':World}(k:Keeps S S' w w'){ki:IntKind}{l:List (List Int)}{u:Value}(h:SlR S w ki l u):SlR S' w' ki l u :=
 beb.mono k (fun _ _ _ h=>SlI.mono k h) h
theorem cell1.mono{S S':Nat→Prop}{w w':World}(k:Keeps S S' w w'){c:Cont}{j:Nat}{x:Value}(h:cell1 S w c j x):cell1 S' w' c j x:=by
 cases c with
 | ints=>exact h
 | rows=>exact SlI.mono k h
 | rows2=>exact SlR.mono k h
 | cols=>exact h
theorem cellC.mono{S S':Nat→Prop}{w w':World}(k:Keeps S S' w w'){c:Cont}{j:Nat}{x:Value}(h:cellC S w c j x):cellC S' w' c j x:=by
 cases c with
 | cols n cs=>obtain ⟨c,hc,h⟩:=h;exact ⟨c,hc,cell1.mono k h⟩
 | ints=>exact h
 | rows=>exact SlI.mono k h
 | rows2=>exact SlR.mono k h
theorem SlC.mono{S S':Nat→Prop}{w w':World}(k:Keeps S S' w w'){c:Cont}{u:Value}(h:SlC S w c u):SlC S' w' c u :=
 beb.mono k (fun _ _ _ h=>cellC.mono k h) h
mutual
def eu(E:Env)(w:World):AVal→Value→Prop
 | .v x,u=>u=x
 | .bot,_=>True
 | .sl c,u=>SlC E.S w c u
 | .own id,u=>E.ρ id=some u
 | .win id off len,u=>∃A n cap,E.ρ id=some (.slice A n cap)∧off+len≤n∧∃A',(0<len→A'=A.map (·.add off))∧(off=0→A'=A)∧u=.slice A' len (cap-off)
 | .awin id off m lo len,u=>∃b A cap,E.ρ id=some (.pointer (some ⟨b,0,none⟩))∧lo+len≤m∧len≤cap∧(0<len→A=some ⟨b,off+lo,none⟩)∧u=.slice A len cap
 | .arr k n l,u=>l.length=n∧u=.agg (l.map (Value.int k)).toArray
 | .agg l,u=>∃cs,u=.agg cs.toArray∧ql E w l cs
 | .ptr id off,u=>∃b,E.ρ id=some (.pointer (some ⟨b,0,none⟩))∧u=.pointer (some ⟨b,off,none⟩)
 | .pel id sz i,u=>∃a n cap,E.ρ id=some (.slice (some a) n cap)∧i<n∧u=.pointer (some (a.add (i*sz)))
 | .fel id sz i off,u=>∃a n cap,E.ρ id=some (.slice (some a) n cap)∧i<n∧off<sz∧u=.pointer (some (a.add (i*sz+off)))
 | .apel id off m i,u=>∃b,E.ρ id=some (.pointer (some ⟨b,0,none⟩))∧i<m∧u=.pointer (some ⟨b,off+i,none⟩)
 | .sta l,u=>∃a cs,u=.pointer (some a)∧E.S a.block∧ql E w l cs∧∀j,j<cs.length→w.cell? (a.add j)=cs[j]?
 | .osta t l,u=>(t=0∧u=.pointer none)∨(t=1∧∃a cs,u=.pointer (some a)∧E.S a.block∧ql E w l cs∧∀j,j<cs.length→w.cell? (a.add j)=cs[j]?)
 | .fn f a b,u=>∃x y,u=.func f x.toArray y.toArray∧lg E w a x∧lg E w b y
 | .iface t x,u=>∃y,u=.iface t y∧eu E w x y
 | .tuple l,u=>∃vs,u=.tuple vs.toArray∧lg E w l vs
 | .fr _ _,_=>False
 | .glob g off,u=>u=.pointer (some ⟨g,off,none⟩)
 | .gel g off m i,u=>i<m∧u=.pointer (some ⟨g,off+i,none⟩)
 | .yld id ts vs,u=>∃l T,E.ρ id=some (.func (.yield l) T #[])∧u=.func (.yield l) #[] #[]∧lg E w vs (ts.map fun t=>T.getD t undef)
 | .alt t f fa fc g ga gc,u=>(t=0∧u=.nilFunc)∨(t=1∧∃x y,u=.func f x.toArray y.toArray∧lg E w fa x∧lg E w fc y)∨(t=2∧∃x y,u=.func g x.toArray y.toArray∧lg E w ga x∧lg E w gc y)
def lg(E:Env)(w:World):List AVal→List Value→Prop
 | [],vs=>vs=[]
 | a::r,vs=>∃u us,vs=u::us∧eu E w a u∧lg E w r us
def ql(E:Env)(w:World):List AVal→List Value→Prop
 | [],cs=>cs=[]
 | .arr k n l::r,cs=>∃cs',l.length=n∧cs=l.map (Value.int k)++cs'∧ql E w r cs'
 | a::r,cs=>∃u cs',cs=u::cs'∧u.oneCell'=true∧eu E w a u∧ql E w r cs'
end
structure Env.Le (n:Nat) (E E':Env) (w w':World):Prop where
 keeps:Keeps E.S E'.S w w'
 ρ:∀id,id<n→∀u,E.ρ id=some u→E'.ρ id=some u
theorem Env.Le.refl(n:Nat)(E:Env)(w:World):Env.Le n E E w w:=⟨Keeps.refl _ _,fun _ _ _ h=>h⟩
theorem Env.Le.trans{n:Nat}{E E' E'':Env}{w w' w'':World}(h:Env.Le n E E' w w')(k:Env.Le n E' E'' w' w''):Env.Le n E E'' w w'' :=
 ⟨h.keeps.trans k.keeps,fun id hid u hu=>k.ρ id hid u (h.ρ id hid u hu)⟩
theorem Env.Le.mono{n m:Nat}{E E':Env}{w w':World}(h:Env.Le n E E' w w')(hm:m≤n):Env.Le m E E' w w' :=
 ⟨h.keeps,fun id hid u hu=>h.ρ id (Nat.lt_of_lt_of_le hid hm) u hu⟩
end Go.Abs
end

section
namespace Go.Abs
open Go
structure Up (E E':Env) (w w':World):Prop where
 keeps:Keeps E.S E'.S w w'
 ρ:∀id u,E.ρ id=some u→E'.ρ id=some u
theorem Up.refl(E:Env)(w:World):Up E E w w:=⟨Keeps.refl _ _,fun _ _ h=>h⟩
theorem Up.trans{E E' E'':Env}{w w' w'':World}(h:Up E E' w w')(k:Up E' E'' w' w''):Up E E'' w w'' :=
 ⟨h.keeps.trans k.keeps,fun id u hu=>k.ρ id u (h.ρ id u hu)⟩
theorem x9{E:Env}{w:World}{a:AVal}{r:List AVal}{cs:List Value}(h:ql E w (a::r) cs) :
    (∃k n l cs',a=.arr k n l∧l.length=n∧cs=l.map (Value.int k)++cs'∧ql E w r cs') ∨
    ((∀k n l,a≠.arr k n l)∧∃u cs',cs=u::cs'∧u.oneCell'=true∧eu E w a u∧ql E w r cs'):=by
 cases a<;>simp only[ql] at h<;>first
  | (obtain ⟨cs',h1,h2,h3⟩:=h;exact .inl ⟨_,_,_,cs',rfl,h1,h2,h3⟩)
  | (obtain ⟨u,cs',h1,h2,h3,h4⟩:=h;exact .inr ⟨by simp,u,cs',h1,h2,h3,h4⟩)
theorem aas{E:Env}{w:World}{k:IntKind}{n:Nat}{l:List Int}{r:List AVal}{cs':List Value}(h1:l.length=n)(h3:ql E w r cs') :
    ql E w (.arr k n l::r) (l.map (Value.int k)++cs'):=by simp only[ql];exact ⟨cs',h1,rfl,h3⟩
theorem nu{E:Env}{w:World}{a:AVal}{r:List AVal}{u:Value}{cs':List Value}(ha:∀k n l,a≠.arr k n l)(h2:u.oneCell'=true)(h3:eu E w a u)(h4:ql E w r cs') :
    ql E w (a::r) (u::cs'):=by
 cases a<;>simp only[ql]<;>first
  | exact absurd rfl (ha _ _ _)
  | exact ⟨u,cs',rfl,h2,h3,h4⟩
mutual
theorem eu.mono{E E':Env}{w w':World}(k:Up E E' w w'):∀(a:AVal) (u:Value),eu E w a u→eu E' w' a u
 | .v x,u,h=>by simp only[eu] at h ⊢;exact h
 | .bot,u,_=>by simp only[eu]
 | .sl c,u,h=>by simp only[eu] at h ⊢;exact SlC.mono k.keeps h
 | .own id,u,h=>by simp only[eu] at h ⊢;exact k.ρ _ _ h
 | .win id off len,u,h=>by
  simp only[eu] at h ⊢
  obtain ⟨A,n,cap,h1,h2⟩:=h
  exact ⟨A,n,cap,k.ρ _ _ h1,h2⟩
 | .awin id off m lo len,u,h=>by
  simp only[eu] at h ⊢
  obtain ⟨b,A,cap,h1,h2⟩:=h
  exact ⟨b,A,cap,k.ρ _ _ h1,h2⟩
 | .arr k n l,u,h=>by simp only[eu] at h ⊢;exact h
 | .agg l,u,h=>by
  simp only[eu] at h ⊢
  obtain ⟨cs,h1,h2⟩:=h
  exact ⟨cs,h1,ql.mono k l cs h2⟩
 | .ptr id off,u,h=>by
  simp only[eu] at h ⊢
  obtain ⟨b,h1,h2⟩:=h
  exact ⟨b,k.ρ _ _ h1,h2⟩
 | .pel id sz i,u,h=>by
  simp only[eu] at h ⊢
  obtain ⟨a,n,cap,h1,h2⟩:=h
  exact ⟨a,n,cap,k.ρ _ _ h1,h2⟩
 | .fel id sz i off,u,h=>by
  simp only[eu] at h ⊢
  obtain ⟨a,n,cap,h1,h2⟩:=h
  exact ⟨a,n,cap,k.ρ _ _ h1,h2⟩
 | .apel id off m i,u,h=>by
  simp only[eu] at h ⊢
  obtain ⟨b,h1,h2⟩:=h
  exact ⟨b,k.ρ _ _ h1,h2⟩
 | .sta l,u,h=>by
  simp only[eu] at h ⊢
  obtain ⟨a,cs,h1,h2,h3,h4⟩:=h
  exact ⟨a,cs,h1,k.keeps.sub _ h2,ql.mono k l cs h3,fun j hj=>by rw[k.keeps.cell (by rw[add_block];exact h2)];exact h4 j hj⟩
 | .osta q l,u,h=>by
  simp only[eu] at h ⊢
  rcases h with h | ⟨h0,a,cs,h1,h2,h3,h4⟩
  ·exact .inl h
  ·exact .inr ⟨h0,a,cs,h1,k.keeps.sub _ h2,ql.mono k l cs h3,fun j hj=>by rw[k.keeps.cell (by rw[add_block];exact h2)];exact h4 j hj⟩
 | .fn f a b,u,h=>by
  simp only[eu] at h ⊢
  obtain ⟨x,y,h1,h2,h3⟩:=h
  exact ⟨x,y,h1,lg.mono k a x h2,lg.mono k b y h3⟩
 | .iface t x,u,h=>by
  simp only[eu] at h ⊢
  obtain ⟨y,h1,h2⟩:=h
  exact ⟨y,h1,eu.mono k x y h2⟩
 | .tuple l,u,h=>by
  simp only[eu] at h ⊢
  obtain ⟨vs,h1,h2⟩:=h
  exact ⟨vs,h1,lg.mono k l vs h2⟩
 | .fr e c,u,h=>by simp only[eu] at h
 | .glob g off,u,h=>by simp only[eu] at h ⊢;exact h
 | .gel g off m i,u,h=>by simp only[eu] at h ⊢;exact h
 | .yld id ts vs,u,h=>by
  simp only[eu] at h ⊢
  obtain ⟨l,T,h1,h2,h3⟩:=h
  exact ⟨l,T,k.ρ _ _ h1,h2,lg.mono k vs _ h3⟩
 | .alt t f fa fc g ga gc,u,h=>by
  simp only[eu] at h ⊢
  rcases h with h | ⟨h0,x,y,h1,h2,h3⟩ | ⟨h0,x,y,h1,h2,h3⟩
  ·exact .inl h
  ·exact .inr (.inl ⟨h0,x,y,h1,lg.mono k fa x h2,lg.mono k fc y h3⟩)
  ·exact .inr (.inr ⟨h0,x,y,h1,lg.mono k ga x h2,lg.mono k gc y h3⟩)
theorem lg.mono{E E':Env}{w w':World}(k:Up E E' w w'):∀(l:List AVal) (vs:List Value),lg E w l vs→lg E' w' l vs
 | [],vs,h=>by simp only[lg] at h ⊢;exact h
 | a::r,vs,h=>by
  simp only[lg] at h ⊢
  obtain ⟨u,us,h1,h2,h3⟩:=h
  exact ⟨u,us,h1,eu.mono k a u h2,lg.mono k r us h3⟩
theorem ql.mono{E E':Env}{w w':World}(k:Up E E' w w'):∀(l:List AVal) (cs:List Value),ql E w l cs→ql E' w' l cs
 | [],cs,h=>by simp only[ql] at h ⊢;exact h
 | a::r,cs,h=>by
  rcases x9 h with ⟨k',n,l,cs',rfl,h1,rfl,h3⟩ | ⟨ha,u,cs',rfl,h2,h3,h4⟩
  ·exact aas h1 (ql.mono k r cs' h3)
  ·exact nu ha h2 (eu.mono k a u h3) (ql.mono k r cs' h4)
end
theorem anz{E:Env}{w:World}{t:Nat}{f g:Fn}{fa fc ga gc:List AVal}{u:Value}:eu E w (.alt t f fa fc g ga gc) u ↔
    (t=0∧u=.nilFunc)∨(t=1∧eu E w (.fn f fa fc) u)∨(t=2∧eu E w (.fn g ga gc) u):=by simp only[eu]
theorem agf{E:Env}{w:World}:∀(l:List AVal) (cs:List Value),ql E w l cs→cs.length=(l.map arv).sum
 | [],cs,h=>by simp only[ql] at h;subst h;rfl
 | a::r,cs,h=>by
  rcases x9 h with ⟨k',n,l,cs',rfl,h1,rfl,h3⟩ | ⟨ha,u,cs',rfl,h2,h3,h4⟩
  ·have:=agf r cs' h3
   simp[arv,h1,this]
  ·have:=agf r cs' h4
   have e:arv a=1:=by cases a<;>first | rfl | exact absurd rfl (ha _ _ _)
   simp[e,this];omega
theorem ah6{E:Env}{w:World}:∀(l:List AVal) (r:List AVal) (cs:List Value),ql E w (ru l r) cs→∃c1 c2,cs=c1++c2∧ql E w l c1∧ql E w r c2
 | [],r,cs,h=>⟨[],cs,rfl,by simp only[ql],h⟩
 | a::l,r,cs,h=>by
  rcases x9 h with ⟨k',n,z,cs',rfl,h1,rfl,h3⟩ | ⟨ha,u,cs',rfl,h2,h3,h4⟩
  ·obtain ⟨c1,c2,rfl,g1,g2⟩:=ah6 l r cs' h3
   exact ⟨z.map (Value.int k')++c1,c2,by simp,aas h1 g1,g2⟩
  ·obtain ⟨c1,c2,rfl,g1,g2⟩:=ah6 l r cs' h4
   exact ⟨u::c1,c2,rfl,nu ha h2 h3 g1,g2⟩
theorem aci{E:Env}{w:World}:∀(l:List AVal) (r:List AVal) (c1 c2:List Value),ql E w l c1→ql E w r c2→ql E w (ru l r) (c1++c2)
 | [],r,c1,c2,h,g=>by simp only[ql] at h;subst h;exact g
 | a::l,r,c1,c2,h,g=>by
  rcases x9 h with ⟨k',n,z,cs',rfl,h1,rfl,h3⟩ | ⟨ha,u,cs',rfl,h2,h3,h4⟩
  ·rw[List.append_assoc];exact aas h1 (aci l r cs' c2 h3 g)
  ·exact nu ha h2 h3 (aci l r cs' c2 h4 g)
theorem ag5{α:Type}:∀(l r:List α),ru l r=l++r
 | [],_=>rfl
 | a::l,r=>by simp[ru,ag5 l r]
theorem ad5:∀(l:List AVal) (n:Nat) (x y:List AVal),aay l n=some (x,y)→l=ru x y∧(x.map arv).sum=n
 | l,0,x,y,h=>by
  rw[aay] at h
  cases h
  exact ⟨rfl,rfl⟩
 | [],n+1,x,y,h=>by rw[aay] at h;cases h
 | a::r,n+1,x,y,h=>by
  rw[aay] at h
  cases hb:Nat.ble (arv a) (n+1) with
  | false=>rw[hb] at h;cases h
  | true =>
   rw[hb] at h
   simp only[cond_true] at h
   have hle:=Nat.le_of_ble_eq_true hb
   cases hs:aay r (n+1-arv a) with
   | none=>rw[hs] at h;cases h
   | some p =>
    obtain ⟨p,q⟩:=p
    rw[hs] at h
    simp only[Option.some.injEq,Prod.mk.injEq] at h
    obtain ⟨rfl,rfl⟩:=h
    obtain ⟨g1,g2⟩:=ad5 r _ _ _ hs
    refine ⟨by rw[g1];rfl,?_⟩
    simp[g2];omega
theorem bh3{l:List AVal}{off sz:Nat}{pre mid post:List AVal}(h:bdf l off sz=some (pre,mid,post)) :
    l=ru pre (ru mid post)∧(pre.map arv).sum=off∧(mid.map arv).sum=sz:=by
 unfold bdf at h
 cases h1:aay l off with
 | none=>rw[h1] at h;cases h
 | some p =>
  obtain ⟨p,q⟩:=p
  rw[h1] at h
  simp only at h
  cases h2:aay q sz with
  | none=>rw[h2] at h;cases h
  | some p2 =>
   obtain ⟨p2,q2⟩:=p2
   rw[h2] at h
   simp only[Option.some.injEq,Prod.mk.injEq] at h
   obtain ⟨rfl,rfl,rfl⟩:=h
   obtain ⟨a1,a2⟩:=ad5 _ _ _ _ h1
   obtain ⟨b1,b2⟩:=ad5 _ _ _ _ h2
   exact ⟨by rw[a1,b1],a2,b2⟩
theorem aeg{k k':IntKind}(h:apa k k'=true):k=k':=by cases k<;>cases k'<;>first | rfl | cases h
theorem alh{k k':IntKind}{x:Option R}{r:R}(h:kOk k k' x=some r):k=k'∧x=some r:=by
 unfold kOk at h
 cases hb:apa k k' with
 | true=>rw[hb] at h;exact ⟨aeg hb,h⟩
 | false=>rw[hb] at h;cases h
theorem aap{b:Bool}{x y:Option R}{r:R}(h:br b x y=some r):(b=true∧x=some r)∨(b=false∧y=some r):=by
 unfold br at h
 cases b with
 | true=>exact .inl ⟨rfl,h⟩
 | false=>exact .inr ⟨rfl,h⟩
theorem afs{b:Bool}{x:Option R}{r:R}(h:br b x none=some r):b=true∧x=some r:=by
 rcases aap h with h | ⟨_,h⟩
 ·exact h
 ·cases h
section
variable {n:Nat} {E E':Env} {w:World}
mutual
theorem at6(hS:E'.S=E.S)(hρ:∀id,id<n→E'.ρ id=E.ρ id):∀(a:AVal) (u:Value),bnd n a=true→eu E w a u→eu E' w a u
 | .v x,u,hb,h=>by simp only[eu] at h ⊢;exact h
 | .bot,u,hb,_=>by simp only[eu]
 | .sl c,u,hb,h=>by simp only[eu] at h ⊢;rw[hS];exact h
 | .own id,u,hb,h=>by simp only[eu] at h ⊢;rw[hρ id (by simpa [bnd] using hb)];exact h
 | .win id off len,u,hb,h=>by simp only[eu] at h ⊢;rw[hρ id (by simpa [bnd] using hb)];exact h
 | .awin id off m lo len,u,hb,h=>by simp only[eu] at h ⊢;rw[hρ id (by simpa [bnd] using hb)];exact h
 | .arr k m l,u,hb,h=>by simp only[eu] at h ⊢;exact h
 | .agg l,u,hb,h=>by
  simp only[eu] at h ⊢
  obtain ⟨cs,h1,h2⟩:=h
  exact ⟨cs,h1,ai8 hS hρ l cs (by simpa [bnd] using hb) h2⟩
 | .ptr id off,u,hb,h=>by simp only[eu] at h ⊢;rw[hρ id (by simpa [bnd] using hb)];exact h
 | .pel id sz i,u,hb,h=>by simp only[eu] at h ⊢;rw[hρ id (by simpa [bnd] using hb)];exact h
 | .fel id sz i off,u,hb,h=>by simp only[eu] at h ⊢;rw[hρ id (by simpa [bnd] using hb)];exact h
 | .apel id off m i,u,hb,h=>by simp only[eu] at h ⊢;rw[hρ id (by simpa [bnd] using hb)];exact h
 | .sta l,u,hb,h=>by
  simp only[eu] at h ⊢
  obtain ⟨a,cs,h1,h2,h3,h4⟩:=h
  exact ⟨a,cs,h1,by rw[hS];exact h2,ai8 hS hρ l cs (by simpa [bnd] using hb) h3,h4⟩
 | .osta q l,u,hb,h=>by
  simp only[eu] at h ⊢
  rcases h with h | ⟨h0,a,cs,h1,h2,h3,h4⟩
  ·exact .inl h
  ·exact .inr ⟨h0,a,cs,h1,by rw[hS];exact h2,ai8 hS hρ l cs (by simpa [bnd] using hb) h3,h4⟩
 | .fn f a b,u,hb,h=>by
  simp only[eu] at h ⊢
  obtain ⟨x,y,h1,h2,h3⟩:=h
  simp only[bnd,Ag] at hb
  exact ⟨x,y,h1,ae4 hS hρ a x hb.1 h2,ae4 hS hρ b y hb.2 h3⟩
 | .iface t x,u,hb,h=>by
  simp only[eu] at h ⊢
  obtain ⟨y,h1,h2⟩:=h
  exact ⟨y,h1,at6 hS hρ x y (by simpa [bnd] using hb) h2⟩
 | .tuple l,u,hb,h=>by
  simp only[eu] at h ⊢
  obtain ⟨vs,h1,h2⟩:=h
  exact ⟨vs,h1,ae4 hS hρ l vs (by simpa [bnd] using hb) h2⟩
 | .fr e c,u,hb,h=>by simp only[eu] at h
 | .glob g off,u,hb,h=>by simp only[eu] at h ⊢;exact h
 | .gel g off m i,u,hb,h=>by simp only[eu] at h ⊢;exact h
 | .yld id ts vs,u,hb,h=>by
  simp only[eu] at h ⊢
  obtain ⟨l,T,h1,h2,h3⟩:=h
  simp only[bnd,Ag] at hb
  exact ⟨l,T,by rw[hρ id (by simpa using hb.1)];exact h1,h2,ae4 hS hρ vs _ hb.2 h3⟩
 | .alt t f fa fc g ga gc,u,hb,h=>by
  simp only[eu] at h ⊢
  simp only[bnd,Ag] at hb
  rcases h with h | ⟨h0,x,y,h1,h2,h3⟩ | ⟨h0,x,y,h1,h2,h3⟩
  ·exact .inl h
  ·exact .inr (.inl ⟨h0,x,y,h1,ae4 hS hρ fa x hb.1.1 h2,ae4 hS hρ fc y hb.1.2 h3⟩)
  ·exact .inr (.inr ⟨h0,x,y,h1,ae4 hS hρ ga x hb.2.1 h2,ae4 hS hρ gc y hb.2.2 h3⟩)
theorem ae4(hS:E'.S=E.S)(hρ:∀id,id<n→E'.ρ id=E.ρ id):∀(l:List AVal) (vs:List Value),ap7 n l=true→lg E w l vs→lg E' w l vs
 | [],vs,hb,h=>by simp only[lg] at h ⊢;exact h
 | a::r,vs,hb,h=>by
  simp only[lg] at h ⊢
  obtain ⟨u,us,h1,h2,h3⟩:=h
  simp only[ap7,Ag] at hb
  exact ⟨u,us,h1,at6 hS hρ a u hb.1 h2,ae4 hS hρ r us hb.2 h3⟩
theorem ai8(hS:E'.S=E.S)(hρ:∀id,id<n→E'.ρ id=E.ρ id):∀(l:List AVal) (cs:List Value),ap7 n l=true→ql E w l cs→ql E' w l cs
 | [],cs,hb,h=>by simp only[ql] at h ⊢;exact h
 | a::r,cs,hb,h=>by
  simp only[ap7,Ag] at hb
  rcases x9 h with ⟨k',m,l,cs',rfl,h1,rfl,h3⟩ | ⟨ha,u,cs',rfl,h2,h3,h4⟩
  ·exact aas h1 (ai8 hS hρ r cs' hb.2 h3)
  ·exact nu ha h2 (at6 hS hρ a u hb.1 h3) (ai8 hS hρ r cs' hb.2 h4)
end
end
end Go.Abs
end

section
namespace Go.Abs
open Go Go.RowKit
def iy:Value→Option Nat
 | .slice (some a) _ _=>some a.block
 | .pointer (some a)=>some a.block
 | _=>none
def aty(E:Env)(w:World)(B0:Nat)(id:Nat)(b:Blk):Prop :=
 ∃u,E.ρ id=some u ∧
  (match b.b with
   | .row e c=>∃xs,w.ownsRow B0 e c.size u c.len xs∧∀j x,xs[j]?=some x→x.oneCell'=true∧cellC E.S w c j x
   | .box e l=>∃k cs,u=.pointer (some ⟨k,0,none⟩)∧B0≤k∧w.heap[k]?=some (.cells cs e (0,0))∧ql E w l cs.toList) ∧
  (b.frz=false→∀k,iy u=some k→¬E.S k) ∧
  (b.frz=true→∀k,iy u=some k→E.S k)
structure W0 where
 w:World
 S0:Nat→Prop
 y:Option (Nat×Nat×Array Value):=none
abbrev mark(l:Nat)(T:Array Value):Value:=.func (.yield l) T #[]
def bh7(w0:W0)(id:Nat)(u:Value):Prop :=
 ((∃A n c,u=.slice A n c)∨∃a,u=.pointer (some a))∨∃l T,w0.y=some (id,l,T)∧u=mark l T
def aob(D:Ctx)(B0:Nat)(w0:W0)(E:Env)(w:World):Prop :=
 ∀id l T,w0.y=some (id,l,T)→B0≤l∧E.S l∧∃Y r,D.y=some Y∧w.heap[l]?=some (.loop r)∧r.tmps=T∧r.params=Y.ps∧r.assign=Y.assign∧r.body=Y.body∧T.size=Y.m ∧
  (Y.ready=true→r.state=.ready∧r.pending=none)
def Marks(B0:Nat)(E:Env)(w:World):List Deferred→Prop
 | []=>True
 | d::r=>(∃b,d={ target:=.collected b,args:=#[] }∧B0≤b∧E.S b∧w.heap[b]?=some (.deferred (some []))∧∀d',d'∈r→d'.target≠.collected b)∧Marks B0 E w r
structure Rel (D:Ctx) (B0:Nat) (w0:W0) (E:Env) (st:ASt) (act:Act) (w:World):Prop where
 below:Below B0 w0.w w
 base:B0≤w.heap.size
 size:act.tmps.size=st.m
 idle:D.top=false→act.defers=[]
 marks:Marks B0 E w act.defers
 recs:aob D B0 w0 E w
 tmps:∀t,eu E w (look st.f t) (act.tmps.getD t undef)
 heap:∀id b,gq st.h id=some b→aty E w B0 id b
 apart:∀id id' b b' u u' k,gq st.h id=some b→b.frz=false→gq st.h id'=some b'→b'.frz=false→id≠id' →
  E.ρ id=some u→E.ρ id'=some u'→iy u=some k→iy u'≠some k
 sOld:∀b,E.S b→b<w.heap.size
 sNew:∀b,E.S b→w0.S0 b∨B0≤b
 form:∀id u,E.ρ id=some u→bh7 w0 id u
 globs:∀g l,assoc D.globs g=some l→E.S g∧∃cs e fz,w.heap[g]?=some (.cells cs e fz)∧ql E w l cs.toList
theorem Marks.keeps{B0:Nat}{E E':Env}{w w':World}(k:Keeps E.S E'.S w w'):∀{ds:List Deferred},Marks B0 E w ds→Marks B0 E' w' ds
 | [],_=>trivial
 | d::r,h=>by
  obtain ⟨⟨b,h1,h2,h3,h4,h5⟩,h6⟩:=h
  exact ⟨⟨b,h1,h2,k.sub _ h3,by rw[k.blk _ h3];exact h4,h5⟩,h6.keeps k⟩
theorem Marks.mono{B0:Nat}{E E':Env}{w w':World}(k:Up E E' w w'){ds:List Deferred}(h:Marks B0 E w ds):Marks B0 E' w' ds:=h.keeps k.keeps
theorem aob.keeps{D:Ctx}{B0:Nat}{w0:W0}{E E':Env}{w w':World}(k:Keeps E.S E'.S w w')(h:aob D B0 w0 E w):aob D B0 w0 E' w':=by
 intro id l T hy
 obtain ⟨h1,h2,Y,r,h3,h4,h5⟩:=h id l T hy
 exact ⟨h1,k.sub _ h2,Y,r,h3,by rw[k.blk _ h2];exact h4,h5⟩
theorem aob.mono{D:Ctx}{B0:Nat}{w0:W0}{E E':Env}{w w':World}(k:Up E E' w w')(h:aob D B0 w0 E w):aob D B0 w0 E' w':=h.keeps k.keeps
theorem ar7{D:Ctx}{B0:Nat}{w0:W0}{E:Env}{w:World}(h:w0.y=none):aob D B0 w0 E w:=by
 intro id l T hy
 rw[h] at hy
 cases hy
theorem bhb{u:Value}:u.ownBlock=iy u∨∃a,u=.pointer a:=by
 cases u with
 | slice a n c=>cases a<;>simp[Value.ownBlock,iy]
 | pointer a=>exact .inr ⟨a,rfl⟩
 | _=>simp[Value.ownBlock,iy]
theorem aty.lt{E:Env}{w:World}{B0 id:Nat}{b:Blk}(h:aty E w B0 id b){u:Value}(hu:E.ρ id=some u){k:Nat}(hk:iy u=some k):B0≤k∧k<w.heap.size:=by
 obtain ⟨u',hu',hb,_⟩:=h
 rw[hu] at hu';cases hu'
 cases hb':b.b with
 | row e c =>
  rw[hb'] at hb
  obtain ⟨xs,ho,_⟩:=hb
  have:u.ownBlock=some k:=by
   rcases bhb (u:=u) with e | ⟨a,rfl⟩
   ·rw[e];exact hk
   ·rcases ho.2 with ⟨h,_⟩ | ⟨g,cap,cur,h,_⟩<;>cases h
  exact ho.lt k this
 | box e l =>
  rw[hb'] at hb
  obtain ⟨k',cs,rfl,hB,hh,_⟩:=hb
  simp[iy] at hk
  subst hk
  exact ⟨hB,(Array.getElem?_eq_some_iff.1 hh).1⟩
theorem aty.form{E:Env}{w:World}{B0 id:Nat}{b:Blk}(h:aty E w B0 id b){u:Value}(hu:E.ρ id=some u):(∃A n c,u=.slice A n c)∨∃a,u=.pointer (some a):=by
 obtain ⟨u',hu',hb,_⟩:=h
 rw[hu] at hu';cases hu'
 cases hb':b.b with
 | row e c =>
  rw[hb'] at hb
  obtain ⟨xs,ho,_⟩:=hb
  rcases ho.2 with ⟨h,_⟩ | ⟨g,cap,cur,h,_⟩
  ·exact .inl ⟨_,_,_,h⟩
  ·exact .inl ⟨_,_,_,h⟩
 | box e l =>
  rw[hb'] at hb
  obtain ⟨k',cs,h,_⟩:=hb
  exact .inr ⟨_,h⟩
theorem bcu{w w':World}{base:Nat}{e:TypeId}{size n:Nat}{v:Value}{xs:List Value}(h:w.ownsRow base e size v n xs)
    (hs:∀k,iy v=some k→w'.heap[k]?=w.heap[k]?):w'.ownsRow base e size v n xs:=by
 refine ⟨h.1,?_⟩
 rcases h.2 with hn | ⟨g,cap,cur,rfl,hb,hg,rest⟩
 ·exact .inl hn
 ·exact .inr ⟨g,cap,cur,rfl,hb,by rw[hs g rfl];exact hg,rest⟩
theorem aty.mono{E E':Env}{w w':World}{B0 id:Nat}{b:Blk}(k:Up E E' w w')(h:aty E w B0 id b)
    (hs:∀u j,E.ρ id=some u→iy u=some j→w'.heap[j]?=w.heap[j]?)
    (hS:b.frz=false→∀u j,E.ρ id=some u→iy u=some j→E'.S j→E.S j):aty E' w' B0 id b:=by
 obtain ⟨u,hu,hb,hf,ht⟩:=h
 refine ⟨u,k.ρ _ _ hu,?_,fun hfr j hj hSj=>hf hfr j hj (hS hfr u j hu hj hSj),fun hfr j hj=>k.keeps.sub _ (ht hfr j hj)⟩
 cases hb':b.b with
 | row e c =>
  rw[hb'] at hb
  obtain ⟨xs,ho,hx⟩:=hb
  exact ⟨xs,bcu ho (fun j hj=>hs u j hu hj),fun j x hjx=>⟨(hx j x hjx).1,cellC.mono k.keeps (hx j x hjx).2⟩⟩
 | box e l =>
  rw[hb'] at hb
  obtain ⟨g,cs,rfl,hB,hh,hl⟩:=hb
  exact ⟨g,cs,rfl,hB,by rw[hs _ g hu rfl];exact hh,ql.mono k l _ hl⟩
theorem abw(m:Nat)(dst:Option Nat)(a:AVal)(f:List (Nat×AVal))(t:Nat) :
    look (bql m dst a f) t=if dst=some t∧t<m then a else look f t:=by
 cases dst with
 | none=>simp[bql]
 | some d =>
  simp only[bql]
  cases hb:Ae d m with
  | false =>
   have hn:¬d<m:=by intro h;rw[Ae,Nat.ble_eq_true_of_le h] at hb;cases hb
   simp only[cond_false]
   rw[if_neg]
   rintro ⟨h,h2⟩
   cases h
   exact hn h2
  | true =>
   have hm:d<m:=by simpa using hb
   simp only[cond_true,look]
   cases he:Aa d t with
   | true =>
    have:=Nat.eq_of_beq_eq_true he
    subst this
    simp[hm]
   | false =>
    have hne:=Nat.ne_of_beq_eq_false he
    simp[hne]
theorem bmg(act:Act)(dst:Option Nat)(u:Value):(act.put dst u).tmps.size=act.tmps.size:=by
 cases dst<;>simp[Act.put]
theorem put_defers(act:Act)(dst:Option Nat)(u:Value):(act.put dst u).defers=act.defers:=by
 cases dst<;>rfl
theorem bnu(act:Act)(dst:Option Nat)(u:Value)(t:Nat) :
    (act.put dst u).tmps.getD t undef=if dst=some t∧t<act.tmps.size then u else act.tmps.getD t undef:=by
 cases dst with
 | none=>simp[Act.put]
 | some d =>
  simp only[Act.put,Array.getD_eq_getD_getElem?,Array.getElem?_setIfInBounds]
  by_cases h:d=t
  ·subst h
   by_cases h2:d<act.tmps.size
   ·simp[h2]
   ·simp[h2]
  ·simp[h]
theorem adn(p h:Hp)(id:Nat):gq (ru p h) id=(match assoc p id with | some b=>b | none=>gq h id):=by
 induction p with
 | nil=>rfl
 | cons x r ih =>
  obtain ⟨k,b⟩:=x
  simp only[ru,gq,assoc]
  cases Aa k id<;>simp[ih]
section
variable {D:Ctx} {B0:Nat} {w0:W0} {E:Env} {st:ASt} {act:Act} {w:World}
theorem Rel.put(h:Rel D B0 w0 E st act w){a:AVal}{u:Value}(hu:eu E w a u)(dst:Option Nat):Rel D B0 w0 E (st.put dst a) (act.put dst u) w :=
 { h with
   size:=by rw[bmg];exact h.size
   idle:=by rw[put_defers];exact h.idle
   marks:=by rw[put_defers];exact h.marks
   tmps:=fun t=>by
    simp only[ASt.put]
    rw[abw,bnu,h.size]
    split
    ·exact hu
    ·exact h.tmps t }
theorem Rel.bpf(h:Rel D B0 w0 E st act w)(n:Nat):Rel D B0 w0 E { st with n:=n } act w :=
 { h with }
theorem Rel.brc(h:Rel D B0 w0 E st act w){a:AVal}{u:Value}(hu:eu E w a u)(n:Nat)(dst:Option Nat) :
    Rel D B0 w0 E (st.app ⟨a,[],n⟩ dst) (act.put dst u) w:=(h.put hu dst).bpf n
theorem Rel.step(h:Rel D B0 w0 E st act w){E':Env}{w':World}(k:Up E E' w w')(hb:Below B0 w w'){h':Hp}(n:Nat)
    (hh:∀id b,gq h' id=some b→aty E' w' B0 id b)
    (ha:∀id id' b b' u u' k,gq h' id=some b→b.frz=false→gq h' id'=some b'→b'.frz=false→id≠id' →
     E'.ρ id=some u→E'.ρ id'=some u'→iy u=some k→iy u'≠some k)
    (hS:∀b,E'.S b→E.S b∨(B0≤b∧b<w'.heap.size)) (hF:∀id u,E'.ρ id=some u→bh7 w0 id u):Rel D B0 w0 E' { st with h:=h',n:=n } act w' where
 below:=h.below.trans hb
 base:=Nat.le_trans h.base hb.size
 size:=h.size
 idle:=h.idle
 marks:=h.marks.mono k
 recs:=h.recs.mono k
 tmps:=fun t=>eu.mono k _ _ (h.tmps t)
 heap:=hh
 apart:=ha
 sOld:=fun b hb'=>by
  rcases hS b hb' with h1 | h1
  ·exact Nat.lt_of_lt_of_le (h.sOld b h1) hb.size
  ·exact h1.2
 sNew:=fun b hb'=>by
  rcases hS b hb' with h1 | h1
  ·exact h.sNew b h1
  ·exact .inr h1.1
 form:=hF
 globs:=fun g l hg=>by
  obtain ⟨hs,cs,e,fz,hc,hl⟩:=h.globs g l hg
  exact ⟨k.keeps.sub _ hs,cs,e,fz,by rw[k.keeps.blk _ hs];exact hc,ql.mono k _ _ hl⟩
theorem Rel.ev(h:Rel D B0 w0 E st act w)(x:Operand):eu E w (ev st.f x) (act.eval x):=by
 cases x with
 | tmp t=>exact h.tmps t
 | const v=>simp only[Abs.ev,eu];rfl
 | global g=>simp only[Abs.ev,eu];rfl
 | func f =>
  simp only[Abs.ev,eu]
  exact ⟨[],[],rfl,by simp only[lg],by simp only[lg]⟩
theorem Rel.evs(h:Rel D B0 w0 E st act w):∀(xs:List Operand),lg E w (evs st.f xs) (xs.map act.eval)
 | []=>by simp only[Abs.evs,lg,List.map_nil]
 | x::r=>by
  simp only[Abs.evs,lg,List.map_cons]
  exact ⟨_,_,rfl,h.ev x,h.evs r⟩
end
end Go.Abs
end

section
namespace Go.Abs
open Go Go.RowKit
def ael(D:Ctx)(B0:Nat)(w0:W0)(st:ASt)(o:Oper)(eff:Eff):Prop :=
 ∀E act w,Rel D B0 w0 E st act w→(∀id,st.n≤id→id<eff.n→E.ρ id=none) →
  ∀(next:Act→World→Prop) (Q:Exit→Act→World→Prop),
   (∀E' w' u,Up E E' w w'→(∀id x,E'.ρ id=some x→E.ρ id=some x∨(st.n≤id∧id<eff.n)) →
    Rel D B0 w0 E' (st.app eff o.dst) (act.put o.dst u) w'→next (act.put o.dst u) w')→o.wp D.P act w next Q
section
variable {D:Ctx} {B0:Nat} {w0:W0} {st:ASt} {o:Oper}
theorem jq{a:AVal}(h:∀E act w,Rel D B0 w0 E st act w→∃u,(execOp act.eval o).run D.P w=.ok (.value u) w∧eu E w a u) :
    ael D B0 w0 st o ⟨a,[],st.n⟩:=by
 intro E act w hR hn next Q hnext
 obtain ⟨u,hr,hu⟩:=h E act w hR
 unfold Oper.wp
 rw[hr,Oper.upon_value]
 exact hnext E w u (Up.refl _ _) (fun id x hx=>.inl hx) (hR.brc hu _ _)
end
section
variable {D:Ctx} {B0:Nat} {w0:W0} {st:ASt} {dst:Option Tmp} {type:TypeId} {pos:String} {after:Array Edge} {guard:Option (Nat×Bool)}
theorem bp7(x:Operand):ael D B0 w0 st ⟨dst,.move x,type,pos,after,guard⟩ ⟨ev st.f x,[],st.n⟩ :=
 jq fun E act w h=>⟨act.eval x,rfl,h.ev x⟩
theorem bh5(x:Operand):ael D B0 w0 st ⟨dst,.assign x,type,pos,after,guard⟩ ⟨ev st.f x,[],st.n⟩ :=
 jq fun E act w h=>⟨act.eval x,rfl,h.ev x⟩
theorem bp9(c a b:Operand){t:Bool}(hc:ev st.f c=.v (.bool t)) :
    ael D B0 w0 st ⟨dst,.pick c a b,type,pos,after,guard⟩ ⟨if t then ev st.f a else ev st.f b,[],st.n⟩ :=
 jq fun E act w h=>by
  have h1:=h.ev c
  rw[hc] at h1
  simp only[eu] at h1
  refine ⟨if t then act.eval a else act.eval b,?_,?_⟩
  ·simp[execOp,h1,asBool]
  ·cases t
   ·exact h.ev b
   ·exact h.ev a
end
theorem bnj{P:Program}{op:BinOp}{X Y:AVal}{K:AVal→Option R}{r:R}(h:byr op X Y K=some r) :
    ∃u v z,X=.v u∧Y=.v v∧K (.v z)=some r∧∀(xt:TypeId) (x y:Operand) (w:World),(do eqGuard op xt x y u v;binOp op xt u v:Sem Value).run P w=.ok z w:=by
 unfold byr at h
 split at h
 all_goals first
  | (rcases aap h with ⟨_,h⟩ | ⟨hb,h⟩
     ·cases h
     ·refine ⟨_,_,_,rfl,rfl,h,fun xt x y w=>?_⟩
      have hb':=of_decide_eq_false hb
      simp[go_sem,Op.shift,hb'])
  | (cases h;done)
  | skip
 all_goals (have h2:=(alh h).2;have hk:=(alh h).1;clear h;subst hk)
 all_goals first
  | (refine ⟨_,_,_,rfl,rfl,h2,fun xt x y w=>?_⟩
     simp[go_sem];done)
  | (rcases aap h2 with ⟨_,h⟩ | ⟨hb,h⟩
     ·cases h
     ·refine ⟨_,_,_,rfl,rfl,h,fun xt x y w=>?_⟩
      have hb':=of_decide_eq_false hb
      simp[go_sem,hb'])
section
variable {D:Ctx} {B0:Nat} {w0:W0} {st:ASt} {dst:Option Tmp} {type:TypeId} {pos:String} {after:Array Edge} {guard:Option (Nat×Bool)}
theorem btk(t:TypeId)(x:Operand){b:Bool}(hx:ev st.f x=.v (.bool b)) :
    ael D B0 w0 st ⟨dst,.unOp .not t x,type,pos,after,guard⟩ ⟨.v (.bool !b),[],st.n⟩ :=
 jq fun E act w hR=>by
  have h1:=hR.ev x
  rw[hx] at h1
  simp only[eu] at h1
  exact ⟨.bool !b,by simp[execOp,h1,Op.unary],by simp only[eu]⟩
theorem bve(t:TypeId)(x:Operand){k:IntKind}{a:Int}(hx:ev st.f x=.v (.int k a)) :
    ael D B0 w0 st ⟨dst,.unOp .neg t x,type,pos,after,guard⟩ ⟨.v (.int k (k.wrap (0-a))),[],st.n⟩ :=
 jq fun E act w hR=>by
  have h1:=hR.ev x
  rw[hx] at h1
  simp only[eu] at h1
  exact ⟨.int k (k.wrap (0-a)),by simp only[execOp,h1,Op.unary,Op.intArith,Sem.run_bind,Sem.run_pure,Result.andThen_ok],by simp only[eu]⟩
theorem bg4(src tgt:TypeId)(x:Operand){k k':IntKind}{a:Int}(hx:ev st.f x=.v (.int k' a)){d:TypeDesc}(hs:D.P.underlying src=some d)(ht:D.P.underlying tgt=some (.int k)) :
    ael D B0 w0 st ⟨dst,.convert src tgt x,type,pos,after,guard⟩ ⟨.v (.int k (k.wrap a)),[],st.n⟩ :=
 jq fun E act w hR=>by
  have h1:=hR.ev x
  rw[hx] at h1
  simp only[eu] at h1
  refine ⟨_,?_,by simp only[eu];rfl⟩
  simp[execOp,h1,convert,run_underlying hs,run_underlying ht,Conv.intToInt]
theorem bhd(x:Operand)(i:Nat){l:List AVal}(hx:ev st.f x=.tuple l)(hi:i<l.length) :
    ael D B0 w0 st ⟨dst,.extract x i,type,pos,after,guard⟩ ⟨l.getD i .bot,[],st.n⟩ :=
 jq fun E act w hR=>by
  have h1:=hR.ev x
  rw[hx] at h1
  simp only[eu] at h1
  obtain ⟨vs,hv,hl⟩:=h1
  have key:∀(l:List AVal) (vs:List Value) (i:Nat),lg E w l vs→i<l.length→∃u,vs[i]?=some u∧eu E w (l.getD i .bot) u:=by
   intro l
   induction l with
   | nil=>intro vs i _ hi;simp at hi
   | cons a r ih =>
    intro vs i h hi
    simp only[lg] at h
    obtain ⟨u,us,rfl,h2,h3⟩:=h
    cases i with
    | zero=>exact ⟨u,rfl,h2⟩
    | succ i =>
     obtain ⟨u',hu,hr⟩:=ih us i h3 (by simpa using hi)
     exact ⟨u',by simpa using hu,by simpa using hr⟩
  obtain ⟨u,hu,hr⟩:=key l vs i hl hi
  refine ⟨u,?_,hr⟩
  simp[execOp,hv,Instr.extract,hu]
theorem atv(t:TypeId)(x:Operand){d:TypeDesc}(ht:D.P.underlying t=some d)(hd:∀ms,d≠.interface ms) :
    ael D B0 w0 st ⟨dst,.makeInterface t x,type,pos,after,guard⟩ ⟨.iface t (ev st.f x),[],st.n⟩ :=
 jq fun E act w hR=>by
  refine ⟨.iface t (act.eval x),?_,by simp only[eu];exact ⟨_,rfl,hR.ev x⟩⟩
  simp only[execOp,Instr.makeInterface,Sem.run_bind,run_underlying ht,Result.andThen_ok]
  cases d<;>first | rfl | exact absurd rfl (hd _)
theorem ahy{E:Env}{w:World}:∀(l r:List AVal) (a b:List Value),lg E w l a→lg E w r b→lg E w (l++r) (a++b)
 | [],r,a,b,h,g=>by simp only[lg] at h;subst h;exact g
 | x::l,r,a,b,h,g=>by
  simp only[lg] at h
  obtain ⟨u,us,rfl,h1,h2⟩:=h
  simp only[List.cons_append,lg]
  exact ⟨u,us++b,rfl,h1,ahy l r us b h2 g⟩
theorem bqt(f:List (Nat×AVal))(xs:List Operand):evs f xs=xs.map (ev f):=by
 induction xs with
 | nil=>rfl
 | cons x r ih=>simp[evs,ih]
theorem air{E:Env}{w:World}:∀(l:List AVal) (vs:List Value),lg E w l vs→vs.length=l.length
 | [],vs,h=>by simp only[lg] at h;subst h;rfl
 | x::l,vs,h=>by
  simp only[lg] at h
  obtain ⟨u,us,rfl,h1,h2⟩:=h
  simp[air l us h2]
theorem bee(fn:Fn)(first caps:Array Operand) :
    ael D B0 w0 st ⟨dst,.makeFunc fn first caps,type,pos,after,guard⟩ ⟨.fn fn (evs st.f first.toList) (evs st.f caps.toList),[],st.n⟩ :=
 jq fun E act w hR=>by
  refine ⟨.func fn (first.map act.eval) (caps.map act.eval),rfl,?_⟩
  simp only[eu]
  exact ⟨_,_,by rw[←Array.toList_map,←Array.toList_map],hR.evs first.toList,hR.evs caps.toList⟩
theorem bem(x:Operand)(hx:∀E act w,Rel D B0 w0 E st act w→(∃a,act.eval x=.pointer (some a))∨(∃f a b,act.eval x=.func (.func f) a b)∨(∃t v,act.eval x=.iface t v)) :
    ael D B0 w0 st ⟨dst,.nilCheck x,type,pos,after,guard⟩ ⟨ev st.f x,[],st.n⟩ :=
 jq fun E act w hR=>by
  refine ⟨act.eval x,?_,hR.ev x⟩
  rcases hx E act w hR with ⟨a,h⟩ | ⟨f,a,b,h⟩ | ⟨t,v,h⟩<;>simp[execOp,h]
end
end Go.Abs
end

section
namespace Go.Abs
open Go Go.RowKit
section
variable {P:Program} {w:World}
theorem bay{t:TypeId}{g:Bool}(h:aex P t=some g):(isAgg t).run P w=.ok g w:=by
 unfold aex at h
 unfold isAgg
 cases hu:P.underlying t with
 | none=>rw[hu] at h;cases h
 | some d =>
  rw[hu] at h
  simp only[Sem.run_bind,run_underlying hu,Result.andThen_ok]
  cases d<;>cases h<;>rfl
theorem azm{t:TypeId}{sz:Nat}(h:oh P t=some sz):∃i,P.info? t=some i∧i.size=sz:=by
 unfold oh at h
 cases hi:P.info? t with
 | none=>rw[hi] at h;cases h
 | some i=>rw[hi] at h;cases h;exact ⟨i,rfl,rfl⟩
theorem run_sizeOf{t:TypeId}{sz:Nat}(h:oh P t=some sz):(sizeOf t).run P w=.ok sz w:=by
 obtain ⟨i,hi,rfl⟩:=azm h
 simp[sizeOf,typeInfo,hi]
theorem run_loadCellsFrom(a:Addr):∀(cs:List Value) (i:Nat) (acc:Array Value),(∀j,j<cs.length→w.cell? (a.add (i+j))=cs[j]?) →
    (loadCellsFrom a i cs.length acc).run P w=.ok (acc++cs.toArray) w
 | [],i,acc,_=>by simp[loadCellsFrom]
 | c::r,i,acc,h=>by
  have h0:=h 0 (by simp)
  simp at h0
  have ih:=run_loadCellsFrom a r (i+1) (acc.push c) (fun j hj=>by
   have:=h (j+1) (by simpa using hj)
   rw[show i+1+j=i+(j+1) from by omega]
   simpa using this)
  simp only[List.length_cons,loadCellsFrom,Sem.run_bind,run_load,h0,Result.andThen_ok,ih]
  simp
theorem run_loadCells(a:Addr)(cs:List Value)(h:∀j,j<cs.length→w.cell? (a.add j)=cs[j]?) :
    (loadCells a cs.length).run P w=.ok cs.toArray w:=by
 unfold loadCells
 rw[run_loadCellsFrom a cs 0 #[] (by simpa using h)]
 simp
theorem asb{t:TypeId}{g:Bool}{sz:Nat}(hg:aex P t=some g)(hs:oh P t=some sz)(a:Addr)(cs:List Value)(hl:cs.length=sz)
    (h:∀j,j<cs.length→w.cell? (a.add j)=cs[j]?) (u:Value) (hu:if g then u=.agg cs.toArray else cs=[u]) :
    (Instr.loadAt t (.pointer (some a))).run P w=.ok u w:=by
 simp only[Instr.loadAt,Instr.sureAddr,loadVar,Sem.run_bind,Sem.run_pure,Result.andThen_ok,bay hg]
 cases g with
 | true =>
  simp only[if_true] at hu ⊢
  subst hl hu
  simp only[Sem.run_bind,run_sizeOf hs,Result.andThen_ok,run_loadCells a cs h,Sem.run_pure]
 | false =>
  simp only[if_false,Bool.false_eq_true] at hu ⊢
  subst hu
  have:=h 0 (by simp)
  rw[add_block_zero] at this
  simp at this
  simp[this]
 where add_block_zero:a.add 0=a:=by simp[Addr.add]
end
section
variable {E:Env} {w:World}
theorem aeh{l:List AVal}{cs:List Value}(h:ql E w l cs):eu E w (atw l) (.agg cs.toArray):=by
 unfold atw
 split
 ·rename_i k n z
  rcases x9 h with ⟨k',n',l',cs',he,h1,rfl,h3⟩ | ⟨ha,_⟩
  ·cases he
   simp only[ql] at h3
   subst h3
   simp only[eu]
   exact ⟨h1,by simp⟩
  ·exact absurd rfl (ha _ _ _)
 ·simp only[eu];exact ⟨cs,rfl,h⟩
theorem aib{a:AVal}{cs:List Value}(h:ql E w [a] cs)(ha:∀k n l,a≠.arr k n l):∃u,cs=[u]∧u.oneCell'=true∧eu E w a u:=by
 rcases x9 h with ⟨k',n',l',cs',he,_⟩ | ⟨_,u,cs',rfl,h2,h3,h4⟩
 ·exact absurd he (ha _ _ _)
 ·simp only[ql] at h4;subst h4;exact ⟨u,rfl,h2,h3⟩
theorem ap8{l pre mid post:List AVal}{off sz:Nat}(hg:bdf l off sz=some (pre,mid,post)){cs:List Value}(h:ql E w l cs) :
    ∃c1 c2 c3,cs=c1++(c2++c3)∧ql E w pre c1∧ql E w mid c2∧ql E w post c3∧c1.length=off∧c2.length=sz:=by
 obtain ⟨h1,h2,h3⟩:=bh3 hg
 rw[h1] at h
 obtain ⟨c1,c',rfl,g1,g'⟩:=ah6 _ _ _ h
 obtain ⟨c2,c3,rfl,g2,g3⟩:=ah6 _ _ _ g'
 exact ⟨c1,c2,c3,rfl,g1,g2,g3,by rw[agf _ _ g1,h2],by rw[agf _ _ g2,h3]⟩
theorem apo{l pre post:List AVal}{off:Nat}(hg:aay l off=some (pre,post)){cs:List Value}(h:ql E w l cs) :
    ∃c1 c2,cs=c1++c2∧ql E w pre c1∧ql E w post c2∧c1.length=off:=by
 obtain ⟨h1,h2⟩:=ad5 _ _ _ _ hg
 rw[h1] at h
 obtain ⟨c1,c2,rfl,g1,g2⟩:=ah6 _ _ _ h
 exact ⟨c1,c2,rfl,g1,g2,by rw[agf _ _ g1,h2]⟩
theorem aaz{k:IntKind}{m:Nat}{z:List Int}{post:List AVal}{cs:List Value}(h:ql E w (.arr k m z::post) cs) :
    ∃cs',z.length=m∧cs=z.map (Value.int k)++cs'∧ql E w post cs':=by
 rcases x9 h with ⟨k',n',l',cs',he,h1,rfl,h3⟩ | ⟨ha,_⟩
 ·cases he;exact ⟨cs',h1,rfl,h3⟩
 ·exact absurd rfl (ha _ _ _)
end
theorem adj{w:World}{b:Nat}{cs:Array Value}{e:TypeId}{fz:Nat×Nat}(h:w.heap[b]?=some (.cells cs e fz))(j:Nat):w.cell? ⟨b,j,none⟩=cs[j]? :=
 cell_of_row w b j cs e fz h
theorem abv{w:World}{base:Nat}{e:TypeId}{size n:Nat}{v:Value}{xs:List Value}(h:w.ownsRow base e size v n xs){a:Addr}{n' cap:Nat}(hv:v=.slice (some a) n' cap) :
    n'=n∧n≤cap∧(∃g,a=⟨g,0,none⟩)∧∀j,j<xs.length→w.cell? (a.add j)=xs[j]?:=by
 rcases h.2 with ⟨hn,_⟩ | ⟨g,cap',cur,hv',hb,hg,hn,hm,hc,ht⟩
 ·rw[hv] at hn;cases hn
 ·rw[hv] at hv'
  cases hv'
  refine ⟨rfl,hn,⟨g,rfl⟩,fun j hj=>?_⟩
  rw[w9,adj hg]
  have:xs[j]?=some xs[j]:=Ad hj
  have h2:=h.cells (g:=g) (by simp[hv,Value.ownBlock]) j xs[j] this
  rw[w9,adj hg] at h2
  rw[this,←h2]
theorem aa9{w:World}{base:Nat}{e:TypeId}{size n:Nat}{v:Value}{xs:List Value}(h:w.ownsRow base e size v n xs){n' cap:Nat}(hv:v=.slice none n' cap):n=0∧n'=0∧cap=0:=by
 rcases h.2 with ⟨hn,h0⟩ | ⟨g,cap',cur,hv',_⟩
 ·rw[hv] at hn;cases hn;exact ⟨h0,rfl,rfl⟩
 ·rw[hv] at hv';cases hv'
section
variable {E:Env} {w:World}
theorem ax5{S:Nat→Prop}{c:Cont}{i:Nat}{x:Value}(h:cell1 S w c i x)(E:Env)(hS:E.S=S):x.oneCell'=true∧eu E w (c.ar4 i) x∧∀k n l,c.ar4 i≠.arr k n l:=by
 subst hS
 cases c with
 | ints k l=>simp only[cell1,aj2] at h;subst h;exact ⟨rfl,by simp only[Cont.ar4,eu],by simp[Cont.ar4]⟩
 | rows k l =>
  simp only[cell1,an8,SlI] at h
  refine ⟨by obtain ⟨A,cap,rfl,_⟩:=h;rfl,?_,by simp[Cont.ar4]⟩
  simp only[Cont.ar4,eu,SlC,Cont.len,Cont.size]
  exact h
 | rows2 k l =>
  simp only[cell1,aoe,SlR] at h
  refine ⟨by obtain ⟨A,cap,rfl,_⟩:=h;rfl,?_,by simp[Cont.ar4]⟩
  simp only[Cont.ar4,eu,SlC,Cont.len,Cont.size]
  exact h
 | cols n cs=>exact h.elim
theorem ax1(i:Nat):∀(cs:List Cont) (xs:List Value),xs.length=cs.length→(∀j (h:j<cs.length) x,xs[j]?=some x→cell1 E.S w cs[j] i x)→ql E w (Cont.aq0 cs i) xs
 | [],xs,hl,_=>by
  have:xs=[]:=List.eq_nil_of_length_eq_zero (by simpa using hl)
  subst this
  simp only[Cont.aq0,ql]
 | c::r,[],hl,_=>by simp at hl
 | c::r,x::xs,hl,h=>by
  have h0:=h 0 (by simp) x rfl
  obtain ⟨h1,h2,h3⟩:=ax5 h0 E rfl
  exact nu h3 h1 h2 (ax1 i r xs (by simpa using hl) fun j hj y hy=>h (j+1) (by simpa using hj) y (by simpa using hy))
theorem bf5{c:Cont}{i:Nat}{xs:List Value}(hl:xs.length=c.size)(h:∀j x,xs[j]?=some x→cellC E.S w c (i*c.size+j) x):ql E w (c.elem i) xs:=by
 have one:∀c:Cont,c.size=1→(∀n cs,c≠.cols n cs)→(∀j x,xs[j]?=some x→cell1 E.S w c (i*1+j) x)→xs.length=1→ql E w [c.ar4 i] xs:=by
  intro c h1 hc h hl
  match xs,hl with
  | [x],_ =>
   have h0:=h 0 x rfl
   simp at h0
   obtain ⟨g1,g2,g3⟩:=ax5 h0 E rfl
   exact nu g3 g1 g2 (by simp only[ql])
 cases c with
 | cols n cs =>
  simp only[Cont.size] at hl h
  refine ax1 i cs xs hl fun j hj x hx=>?_
  obtain ⟨c,hc,hx'⟩:=h j x hx
  have hm:(i*cs.length+j)%cs.length=j:=by rw[Nat.mul_comm,Nat.mul_add_mod];exact Nat.mod_eq_of_lt hj
  have hd:(i*cs.length+j)/cs.length=i:=by rw[Nat.mul_comm,Nat.mul_add_div (by omega),Nat.div_eq_of_lt hj];simp
  rw[hm] at hc
  rw[hd] at hx'
  rw[Ad hj] at hc
  cases hc
  exact hx'
 | ints k l=>exact one (.ints k l) rfl (by simp) h hl
 | rows k l=>exact one (.rows k l) rfl (by simp) h hl
 | rows2 k l=>exact one (.rows2 k l) rfl (by simp) h hl
end
end Go.Abs
end

section
namespace Go.Abs
open Go Go.RowKit
def Place(E:Env)(w:World)(u:Value)(l:List AVal)(sz:Nat):Prop :=
 ∃a cs,u=.pointer (some a)∧ql E w l cs∧cs.length=sz∧∀j,j<cs.length→w.cell? (a.add j)=cs[j]?
section
variable {D:Ctx} {B0:Nat} {w0:W0} {E:Env} {st:ASt} {act:Act} {w:World}
theorem bk6{l:List AVal}{u:Value}(h:eu E w (.sta l) u){sz:Nat}(hs:(l.map arv).sum=sz):Place E w u l sz:=by
 simp only[eu] at h
 obtain ⟨a,cs,h1,h2,h3,h4⟩:=h
 exact ⟨a,cs,h1,h3,by rw[agf _ _ h3,hs],h4⟩
theorem avt{l pre mid post:List AVal}{off sz:Nat}(hg:bdf l off sz=some (pre,mid,post)){cs:List Value}(h:ql E w l cs)(a:Addr)
    (hc:∀j,j<cs.length→w.cell? (a.add j)=cs[j]?):∃c2,ql E w mid c2∧c2.length=sz∧∀j,j<c2.length→w.cell? ((a.add off).add j)=c2[j]?:=by
 obtain ⟨c1,c2,c3,rfl,g1,g2,g3,l1,l2⟩:=ap8 hg h
 refine ⟨c2,g2,l2,fun j hj=>?_⟩
 rw[add_add,hc (off+j) (by simp;omega)]
 rw[Ab (by omega),Ac (by omega)]
 congr 1
 omega
theorem bkc{e:TypeId}{l pre mid post:List AVal}{id off sz:Nat}{f:Bool}(hb:aty E w B0 id ⟨.box e l,f⟩)(hg:bdf l off sz=some (pre,mid,post)){u:Value}(h:eu E w (.ptr id off) u) :
    Place E w u mid sz:=by
 simp only[eu] at h
 obtain ⟨b,h1,rfl⟩:=h
 obtain ⟨v,hv,⟨k,cs,rfl,hB,hh,hl⟩,_⟩:=hb
 rw[hv] at h1
 cases h1
 obtain ⟨c2,g1,g2,g3⟩:=avt hg hl ⟨b,0,none⟩ (fun j hj=>by rw[w9,adj hh];simp)
 exact ⟨⟨b,off,none⟩,c2,rfl,g1,g2,fun j hj=>by have:=g3 j hj;rw[w9] at this;simpa using this⟩
theorem bhr{l pre mid post:List AVal}{g off sz:Nat}(hgl:∃cs e fz,w.heap[g]?=some (.cells cs e fz)∧ql E w l cs.toList)(hg:bdf l off sz=some (pre,mid,post)){u:Value}(h:eu E w (.glob g off) u) :
    Place E w u mid sz:=by
 simp only[eu] at h
 subst h
 obtain ⟨cs,e,fz,hh,hl⟩:=hgl
 obtain ⟨c2,g1,g2,g3⟩:=avt hg hl ⟨g,0,none⟩ (fun j hj=>by rw[w9,adj hh];simp)
 exact ⟨⟨g,off,none⟩,c2,rfl,g1,g2,fun j hj=>by have:=g3 j hj;rw[w9] at this;simpa using this⟩
theorem aug(c:Cont)(i:Nat):∀k n l,c.ar4 i≠.arr k n l:=by intro k n l;cases c<;>simp[Cont.ar4]
theorem bdb:∀(cs:List Cont) (i o:Nat),∀k n l,aw4 (Cont.aq0 cs i) o≠.arr k n l
 | [],i,o=>by intro k n l;simp[Cont.aq0,aw4]
 | c::r,i,0=>by intro k n l;simp only[Cont.aq0,aw4];exact aug c i k n l
 | c::r,i,o+1=>by intro k n l;simp only[Cont.aq0,aw4];exact bdb r i o k n l
theorem bh2(c:Cont)(i o:Nat):∀k n l,aw4 (c.elem i) o≠.arr k n l:=by
 have one:∀a:AVal,(∀k n l,a≠.arr k n l)→∀k n l,aw4 [a] o≠.arr k n l:=by
  intro a ha k n l
  cases o with
  | zero=>exact ha k n l
  | succ o=>simp[aw4]
 cases c with
 | cols m cs=>exact bdb cs i o
 | ints k l=>exact one _ (aug _ _)
 | rows k l=>exact one _ (aug _ _)
 | rows2 k l=>exact one _ (aug _ _)
theorem bl9(c:Cont)(i:Nat):(c.elem i).length=c.size:=by
 cases c with
 | cols m cs =>
  simp only[Cont.elem,Cont.size]
  induction cs with
  | nil=>rfl
  | cons c r ih=>simp[Cont.aq0,ih]
 | _=>rfl
theorem bgz{E:Env}{w:World}:∀(p:List AVal) (cs:List Value) (o:Nat),(∀o k n l,aw4 p o≠.arr k n l)→ql E w p cs→o<p.length→∃x,cs[o]?=some x∧x.oneCell'=true∧eu E w (aw4 p o) x
 | [],cs,o,_,h,ho=>by simp at ho
 | a::r,cs,o,hn,h,ho=>by
  have ha:∀k n l,a≠.arr k n l:=fun k n l=>by simpa [aw4] using hn 0 k n l
  have h':∃u cs',cs=u::cs'∧u.oneCell'=true∧eu E w a u∧ql E w r cs':=by
   cases a<;>first | (exact absurd rfl (ha _ _ _)) | (simpa only[ql] using h)
  obtain ⟨u,cs',rfl,h1,h2,h3⟩:=h'
  cases o with
  | zero=>exact ⟨u,rfl,h1,h2⟩
  | succ o =>
   obtain ⟨x,g1,g2⟩:=bgz r cs' o (fun o k n l=>by simpa [aw4] using hn (o+1) k n l) h3 (by simpa using ho)
   exact ⟨x,by simpa using g1,by simpa [aw4] using g2⟩
theorem ba8{e:TypeId}{c:Cont}{id i:Nat}{f:Bool}(hb:aty E w B0 id ⟨.row e c,f⟩){u:Value}(h:eu E w (.pel id c.size i) u) :
    Place E w u (c.elem i) c.size:=by
 simp only[eu] at h
 obtain ⟨a,n,cap,h1,hi,rfl⟩:=h
 obtain ⟨v,hv,⟨xs,ho,hx⟩,_⟩:=hb
 rw[hv] at h1
 cases h1
 obtain ⟨rfl,hcap,⟨g,rfl⟩,hcell⟩:=abv ho rfl
 have hxl:xs.length=c.len*c.size:=ho.1
 have hle:i*c.size+c.size≤xs.length:=by rw[hxl,←Nat.succ_mul];exact Nat.mul_le_mul_right _ hi
 have hlen:((xs.drop (i*c.size)).take c.size).length=c.size:=by simp;omega
 refine ⟨_,(xs.drop (i*c.size)).take c.size,rfl,bf5 hlen fun j x hj=>?_,hlen,fun j hj=>?_⟩
 ·have hjl:j<c.size:=by
    have:=(List.getElem?_eq_some_iff.1 hj).1
    omega
  rw[List.getElem?_take,if_pos hjl,Ah] at hj
  exact (hx _ x hj).2
 ·rw[hlen] at hj
  rw[add_add,hcell _ (by omega),List.getElem?_take,if_pos hj,Ah]
theorem bj0{e:TypeId}{c:Cont}{id i o:Nat}{f:Bool}(hb:aty E w B0 id ⟨.row e c,f⟩){u:Value}(h:eu E w (.fel id c.size i o) u) :
    Place E w u [aw4 (c.elem i) o] 1:=by
 simp only[eu] at h
 obtain ⟨a,n,cap,h1,hi,ho,rfl⟩:=h
 have hp:=ba8 hb (u:=.pointer (some (a.add (i*c.size)))) (i:=i) (by simp only[eu];exact ⟨a,n,cap,h1,hi,rfl⟩)
 obtain ⟨a',cs,g1,g2,g3,g4⟩:=hp
 cases g1
 obtain ⟨x,k1,k2,k3⟩:=bgz _ cs o (fun o=>bh2 c i o) g2 (by rw[bl9];exact ho)
 refine ⟨_,[x],rfl,?_,rfl,fun j hj=>?_⟩
 ·have ha:=bh2 c i o
  cases hc:aw4 (c.elem i) o<;>rw[hc] at k3 ha<;>first | (exact absurd rfl (ha _ _ _)) | (simp only[ql];exact ⟨x,[],rfl,k2,k3,rfl⟩)
 ·have hj0:j=0:=by simp at hj;omega
  subst hj0
  have:=g4 o (by rw[g3];exact ho)
  rw[add_add] at this ⊢
  simpa [k1] using this
theorem bg5{e:TypeId}{k:IntKind}{m:Nat}{z:List Int}{l pre post:List AVal}{id off i:Nat}{f:Bool}(hb:aty E w B0 id ⟨.box e l,f⟩)(hs:aay l off=some (pre,.arr k m z::post)){u:Value}
    (h:eu E w (.apel id off m i) u):Place E w u [.v (.int k (z.getD i 0))] 1:=by
 simp only[eu] at h
 obtain ⟨b,h1,hi,rfl⟩:=h
 obtain ⟨v,hv,⟨kb,cs,rfl,hB,hh,hl⟩,_⟩:=hb
 rw[hv] at h1
 cases h1
 obtain ⟨c1,c2,he,g1,g2,l1⟩:=apo hs hl
 obtain ⟨cs',hz,rfl,_⟩:=aaz g2
 refine ⟨_,[.int k (z.getD i 0)],rfl,nu (by simp) rfl (by simp only[eu]) (by simp only[ql]),rfl,fun j hj=>?_⟩
 have:j=0:=by simpa using hj
 subst this
 rw[show (⟨b,off+i,none⟩:Addr).add 0=⟨b,off+i,none⟩ from by simp[Addr.add],adj hh,←Af,he]
 rw[Ab (by omega),Ac (by simp;omega)]
 simp[l1,Ad (show i<z.length by omega)]
theorem bed{e:TypeId}{k:IntKind}{m:Nat}{z:List Int}{l pre post:List AVal}{id off i len:Nat}{f:Bool}(hb:aty E w B0 id ⟨.box e l,f⟩)(hs:aay l off=some (pre,.arr k m z::post)){u:Value}
    (h:eu E w (.apel id off m i) u) (hle:i+len≤m):Place E w u [.arr k len ((z.drop i).take len)] len:=by
 simp only[eu] at h
 obtain ⟨b,h1,hi,rfl⟩:=h
 obtain ⟨v,hv,⟨kb,cs,rfl,hB,hh,hl⟩,_⟩:=hb
 rw[hv] at h1
 cases h1
 obtain ⟨c1,c2,he,g1,g2,l1⟩:=apo hs hl
 obtain ⟨cs',hz,rfl,_⟩:=aaz g2
 have hlen:((z.drop i).take len).length=len:=by simp only[List.length_take,List.length_drop];omega
 have hr:=aas (E:=E) (w:=w) (k:=k) (r:=[]) (cs':=[]) hlen (by simp only[ql])
 rw[List.append_nil] at hr
 refine ⟨_,_,rfl,hr,by rw[Aj,hlen],fun j hj=>?_⟩
 simp only[Aj,hlen] at hj
 rw[w9,adj hh,←Af,he]
 rw[Ab (by omega),Ac (by simp;omega)]
 rw[show off+i+j-c1.length=i+j by omega,Ai,Ai,Al hj,Ah]
theorem biz{k:IntKind}{m:Nat}{z:List Int}{l pre post:List AVal}{g off i:Nat}(hgl:∃cs e fz,w.heap[g]?=some (.cells cs e fz)∧ql E w l cs.toList)(hs:aay l off=some (pre,.arr k m z::post)){u:Value}
    (h:eu E w (.gel g off m i) u):Place E w u [.v (.int k (z.getD i 0))] 1:=by
 simp only[eu] at h
 obtain ⟨hi,rfl⟩:=h
 obtain ⟨cs,e,fz,hh,hl⟩:=hgl
 obtain ⟨c1,c2,he,g1,g2,l1⟩:=apo hs hl
 obtain ⟨cs',hz,rfl,_⟩:=aaz g2
 refine ⟨_,[.int k (z.getD i 0)],rfl,nu (by simp) rfl (by simp only[eu]) (by simp only[ql]),rfl,fun j hj=>?_⟩
 have:j=0:=by simpa using hj
 subst this
 rw[show (⟨g,off+i,none⟩:Addr).add 0=⟨g,off+i,none⟩ from by simp[Addr.add],adj hh,←Af,he]
 rw[Ab (by omega),Ac (by simp;omega)]
 simp[l1,Ad (show i<z.length by omega)]
theorem bhf{k:IntKind}{m:Nat}{z:List Int}{l pre post:List AVal}{g off i len:Nat}(hgl:∃cs e fz,w.heap[g]?=some (.cells cs e fz)∧ql E w l cs.toList)(hs:aay l off=some (pre,.arr k m z::post)){u:Value}
    (h:eu E w (.gel g off m i) u) (hle:i+len≤m):Place E w u [.arr k len ((z.drop i).take len)] len:=by
 simp only[eu] at h
 obtain ⟨hi,rfl⟩:=h
 obtain ⟨cs,e,fz,hh,hl⟩:=hgl
 obtain ⟨c1,c2,he,g1,g2,l1⟩:=apo hs hl
 obtain ⟨cs',hz,rfl,_⟩:=aaz g2
 have hlen:((z.drop i).take len).length=len:=by simp only[List.length_take,List.length_drop];omega
 have hr:=aas (E:=E) (w:=w) (k:=k) (r:=[]) (cs':=[]) hlen (by simp only[ql])
 rw[List.append_nil] at hr
 refine ⟨_,_,rfl,hr,by rw[Aj,hlen],fun j hj=>?_⟩
 simp only[Aj,hlen] at hj
 rw[w9,adj hh,←Af,he]
 rw[Ab (by omega),Ac (by simp;omega)]
 rw[show off+i+j-c1.length=i+j by omega,Ai,Ai,Al hj,Ah]
end
section
variable {D:Ctx} {B0:Nat} {w0:W0} {st:ASt} {dst:Option Tmp} {type:TypeId} {pos:String} {after:Array Edge} {guard:Option (Nat×Bool)}
theorem apt(t:TypeId)(x:Operand){l:List AVal}{sz:Nat}(hg:aex D.P t=some true)(hs:oh D.P t=some sz)
    (hp:∀E act w,Rel D B0 w0 E st act w→Place E w (act.eval x) l sz) :
    ael D B0 w0 st ⟨dst,.load t x,type,pos,after,guard⟩ ⟨atw l,[],st.n⟩ :=
 jq fun E act w hR=>by
  obtain ⟨a,cs,hu,hl,hsz,hc⟩:=hp E act w hR
  refine ⟨.agg cs.toArray,?_,aeh hl⟩
  simp only[execOp,hu,Sem.run_bind,asb hg hs a cs hsz hc (.agg cs.toArray) (by simp),Result.andThen_ok,Sem.run_pure]
theorem bd8(t:TypeId)(x:Operand){a:AVal}(hg:aex D.P t=some false){sz:Nat}(hs:oh D.P t=some sz)(ha:∀k n l,a≠.arr k n l)
    (hp:∀E act w,Rel D B0 w0 E st act w→Place E w (act.eval x) [a] sz) :
    ael D B0 w0 st ⟨dst,.load t x,type,pos,after,guard⟩ ⟨a,[],st.n⟩ :=
 jq fun E act w hR=>by
  obtain ⟨ad,cs,hu,hl,hsz,hc⟩:=hp E act w hR
  obtain ⟨u,rfl,_,hv⟩:=aib hl ha
  refine ⟨u,?_,hv⟩
  simp only[execOp,hu,Sem.run_bind,asb hg hs ad [u] hsz hc u (by simp),Result.andThen_ok,Sem.run_pure]
end
end Go.Abs
end
