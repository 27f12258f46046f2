/-
  SlhRight, part 12: lemmas for the law.
-/

import Derived.Test.YtciddcopcdmnbaaGreatDoorSlhRightH
import Derived.Test.YtciddcopcdmnbaaGreatDoorSlhRightI
import Derived.Test.YtciddcopcdmnbaaGreatDoorSlhRightK
open Go.IntKind renaming i64 → Aa, u64 → Ad, u32 → Ae
open List renaming take → Ab, drop → Ac

noncomputable section
open Go Go.Abs
set_option linter.unusedVariables false
namespace P

abbrev bz4(ρ:Type):=Int→Int→(List Int)→Int→Int→Int→Int→Int→Bool→(List Int)→Int→Int→Int→Int→Int→Bool→(List Int)→(List Int)→Int→Int→Int→Int→Int→Bool→(List Int)→(List Int)→(List Int)→Option ρ
def ad9{ρ:Type}(o b:Int)(f:List Int)(c p q d r:Int)(s:Bool)(a:List Int)(g h i j k:Int)(l:Bool)(m n:List Int)(t u v e w:Int)(y:Bool)(z A B:List Int)(nx F:bz4 ρ):Option ρ:=br (decide (b<o)) (br (decide (0≤b)) (br (decide (b<(↑B.length:Int))) (br (decide (e<0)) none (su g h i j k l [] m n (bits BinOp.or Ad (Ad.wrap (Ad.wrap b*2^min e.toNat 64)) (Ad.wrap (B.getD b.toNat 0))) a fun C=>br (decide ((f.length+C.length)*1≤140737488355328)) (br (decide (0≤Aa.wrap (c*Aa.wrap (d+1)))) (br (decide (Aa.wrap (c*Aa.wrap (d+1))≤(↑a.length:Int))) (br (decide ((↑a.length:Int)≤(↑a.length:Int))) (nx o (Aa.wrap (b+1)) (f++C) c p q d r s (Ac (Aa.wrap (c*Aa.wrap (d+1))).toNat (Ab (↑a.length:Int).toNat a)) g h i j k l m n t u v e w y z A B) none) none) none) none)) none) none) (F o b f c p q d r s a g h i j k l m n t u v e w y z A B)
abbrev bte:=Int×Int×(List Int)×Int×Int×Int×Int×Int×Bool×(List Int)×Int×Int×Int×Int×Int×Bool×(List Int)×(List Int)×Int×Int×Int×Int×Int×Bool×(List Int)×(List Int)×(List Int)
abbrev b28:=bte
def byp{ρ:Type}(f:bte→Option ρ):bz4 ρ:=fun A B a b c d e g h i j k l m n o p q r s t u v w y z C=>f (A,B,a,b,c,d,e,g,h,i,j,k,l,m,n,o,p,q,r,s,t,u,v,w,y,z,C)
def bwu{ρ:Type}:ahn bte b28 ρ:=fun (z,A,a,b,c,d,e,f,g,h,i,j,k,l,m,n,o,p,q,r,s,t,u,v,w,y,B) next ex=>ad9 z A a b c d e f g h i j k l m n o p q r s t u v w y B (byp next) (byp ex)
def b3b{ρ:Type}:=shut (lp (bwu (ρ:=ρ)))
theorem b4w{ρ:Type}:b3b (ρ:=ρ)=lp bwu:=bq _
def bxd{ρ:Type}(f:ahp bte b28 ρ)(A B:Int)(a:List Int)(b c d e g:Int)(h:Bool)(i:List Int)(j k l m n:Int)(o:Bool)(p q:List Int)(r s t u v:Int)(w:Bool)(y z C:List Int)(F:bz4 ρ):Option ρ:=f (A,B,a,b,c,d,e,g,h,i,j,k,l,m,n,o,p,q,r,s,t,u,v,w,y,z,C) (fun (A,B,a,b,c,d,e,g,h,i,j,k,l,m,n,o,p,q,r,s,t,u,v,w,y,z,C)=>F A B a b c d e g h i j k l m n o p q r s t u v w y z C)
def aiu{ρ:Type}:=bxd (lp (bwu (ρ:=ρ)))
def ail{ρ:Type}:=bxd (b3b (ρ:=ρ))
theorem amj{ρ:Type}:ail (ρ:=ρ)=aiu:=congrArg bxd b4w
def aew{ρ:Type}(b e f c d:Int)(a:Bool)(h i g j:List Int)(k:(List Int)→Option ρ):Option ρ:=jo b e f c d a fun v w=>ji b e f c d a fun y=>br (!y) (k []) (br ((↑g.length:Int) !=b) (k []) (br ((↑i.length:Int) !=w) (k []) (br ((↑h.length:Int) !=v) (k []) (jl i c d fun l=>ail (↑l.length:Int) 0 [] b e f c d a h b e f c d a g j b e f c d a g j l fun W Z z q7 q8 q9 A B C F m n o p q r s t G H I J M N O Q U=>qm m n o p q r [] s t z fun u=>k u))))
def ny{ρ:Type}:=shut (aew (ρ:=ρ))
theorem aj7{ρ:Type}(b:Int)(c:Int)(d:Int)(e:Int)(f:Int)(a:Bool)(g:List Int)(h:List Int)(i:List Int)(j:List Int)(k:(List Int)→Option ρ):ny b c d e f a g h i j k=aew b c d e f a g h i j k:=by unfold ny;rw[bq]

def aff{ρ:Type}(c:List Int)(a b:Int)(k:(List Int)→Option ρ):Option ρ:=dh [0,0,0,0,0,0,0,0,0,0,0,0,0,0,0,0,0,0,0,0,0,0,0,0,0,0,0,0,0,0,0,0] 1 a fun d=>dh d 2 3 fun e=>dh e 3 b fun f=>k f
def og{ρ:Type}:=shut (aff (ρ:=ρ))
theorem akd{ρ:Type}(a:List Int)(b:Int)(c:Int)(k:(List Int)→Option ρ):og a b c k=aff a b c k:=by unfold og;rw[bq]

abbrev b3d(ρ:Type):=(List (List Int))→Int→Int→Int→Int→Int→Int→Int→Bool→Option ρ
def ank{ρ:Type}(h:List (List Int))(i g a b c d e:Int)(f:Bool)(nx j:b3d ρ)(k:Bool→Int→Int→Int→Int→Int→Bool→Option ρ):Option ρ:=br (decide (g<i)) (br (decide (0≤g)) (br (decide (g<(↑h.length:Int))) (br ((↑(h.getD g.toNat []).length:Int) !=a) (k false a b c d e f) (nx h i (Aa.wrap (g+1)) a b c d e f)) none) none) (j h i g a b c d e f)
abbrev bxz:=(List (List Int))×Int×Int×Int×Int×Int×Int×Int×Bool
abbrev b3v:=((List (List Int))×Int×Int×Int×Int×Int×Int×Int×Bool) ⊕ (Bool×Int×Int×Int×Int×Int×Bool)
def b5o{ρ:Type}(f:bxz→Option ρ):b3d ρ:=fun h i j a b c d e g=>f (h,i,j,a,b,c,d,e,g)
def bwz{ρ:Type}:ahn bxz b3v ρ:=fun (g,h,i,a,b,c,d,e,f) next ex=>ank g h i a b c d e f (b5o next) (fun g h i a b c d e f=>ex (.inl (g,h,i,a,b,c,d,e,f))) (fun j a b c d e f=>ex (.inr (j,a,b,c,d,e,f)))
def b0d{ρ:Type}:=shut (lp (bwz (ρ:=ρ)))
theorem b5h{ρ:Type}:b0d (ρ:=ρ)=lp bwz:=bq _
def bx2{ρ:Type}(f:ahp bxz b3v ρ)(h:List (List Int))(i j a b c d e:Int)(g:Bool)(k:b3d ρ)(l:Bool→Int→Int→Int→Int→Int→Bool→Option ρ):Option ρ:=f (h,i,j,a,b,c,d,e,g) (Sum.elim (fun (h,i,j,a,b,c,d,e,g)=>k h i j a b c d e g) (fun x=>l x.1 x.2.1 x.2.2.1 x.2.2.2.1 x.2.2.2.2.1 x.2.2.2.2.2.1 x.2.2.2.2.2.2))
def atj{ρ:Type}:=bx2 (lp (bwz (ρ:=ρ)))
def as2{ρ:Type}:=bx2 (b0d (ρ:=ρ))
theorem awf{ρ:Type}:as2 (ρ:=ρ)=atj:=congrArg bx2 b5h
def alc{ρ:Type}(b c d e f:Int)(a:Bool)(g:List (List Int))(k:Bool→Option ρ):Option ρ:=as2 g (↑g.length:Int) 0 b c d e f a (fun w y z i j l m n o=>ji i j l m n o fun p=>k p) fun h q r s t u v=>k h
def oo{ρ:Type}:=shut (alc (ρ:=ρ))
theorem atd{ρ:Type}(b:Int)(c:Int)(d:Int)(e:Int)(f:Int)(a:Bool)(g:List (List Int))(k:Bool→Option ρ):oo b c d e f a g k=alc b c d e f a g k:=by unfold oo;rw[bq]

def ah3{ρ:Type}(c b d e f:Int)(a:Bool)(i j:Int)(k:Bool→Option ρ):Option ρ:=ig c b d e f a fun g=>br (decide (Aa.wrap (b-g)<0)) none (br (i.fdiv (2^min (Aa.wrap (b-g)).toNat 64)==0) (ig c b d e f a fun h=>br (decide (h<0)) none (k (j.fdiv (2^min h.toNat 64)==0))) (k false))
def kr{ρ:Type}:=shut (ah3 (ρ:=ρ))
theorem aoy{ρ:Type}(b:Int)(c:Int)(d:Int)(e:Int)(f:Int)(a:Bool)(g:Int)(h:Int)(k:Bool→Option ρ):kr b c d e f a g h k=ah3 b c d e f a g h k:=by unfold kr;rw[bq]

def ac4{ρ:Type}(a r s t u:Int)(n:Bool)(v:Nat)(e:Int)(b:List Int)(o:Int)(m:Bool)(p f:Int)(c g:List Int)(h q i:Int)(d j:List Int)(l:Int)(k:Int→Option ρ):Option ρ:=k (Aa.wrap (Aa.wrap (2*a)+3))
def pz{ρ:Type}:=shut (ac4 (ρ:=ρ))
theorem ahk{ρ:Type}(q:Int)(r:Int)(s:Int)(t:Int)(u:Int)(m:Bool)(v:Nat)(d:Int)(a:List Int)(n:Int)(l:Bool)(o:Int)(e:Int)(b:List Int)(f:List Int)(g:Int)(p:Int)(h:Int)(c:List Int)(i:List Int)(j:Int)(k:Int→Option ρ):pz q r s t u m v d a n l o e b f g p h c i j k=ac4 q r s t u m v d a n l o e b f g p h c i j k:=by unfold pz;rw[bq]

abbrev byc(ρ:Type):=Int→Int→Int→(List Int)→Option ρ
def ajv{ρ:Type}(d b a:Int)(c:List Int)(nx e:byc ρ):Option ρ:=br (decide (a<b)) (br (decide (0≤a)) (br (decide (a<(↑c.length:Int))) (nx (Ae.wrap (d-c.getD a.toNat 0)) b (Aa.wrap (a+1)) c) none) none) (e d b a c)
abbrev bvi:=Int×Int×Int×(List Int)
abbrev b0y:=bvi
def b3h{ρ:Type}(f:bvi→Option ρ):byc ρ:=fun c a b d=>f (c,a,b,d)
def bw0{ρ:Type}:ahn bvi b0y ρ:=fun (c,a,b,d) next ex=>ajv c a b d (b3h next) (b3h ex)
def b2k{ρ:Type}:=shut (lp (bw0 (ρ:=ρ)))
theorem b5m{ρ:Type}:b2k (ρ:=ρ)=lp bw0:=bq _
def bvq{ρ:Type}(f:ahp bvi b0y ρ)(c a b:Int)(d:List Int)(e:byc ρ):Option ρ:=f (c,a,b,d) (fun (c,a,b,d)=>e c a b d)
def ao2{ρ:Type}:=bvq (lp (bw0 (ρ:=ρ)))
def ab0{ρ:Type}:=bvq (b2k (ρ:=ρ))
theorem ars{ρ:Type}:ab0 (ρ:=ρ)=ao2:=congrArg bvq b5m
def ah5{ρ:Type}(a:Int)(c:List Int)(k:(List Int)→Option ρ):Option ρ:=br (a !=16) (br (a !=24) (br (a !=32) (k []) (br ((↑c.length:Int) !=a) (k []) (jl c 4 (Aa.wrap (2*a)) fun h=>ab0 (Ae.wrap (Aa.wrap (15*(↑h.length:Int)))) (↑h.length:Int) 0 h fun d o p j=>br (decide ((j.length+([bits BinOp.and Ae (d.fdiv ((2:Int)^4)) (15:Int),bits BinOp.and Ae d (15:Int)].length.add 0).succ)*4≤140737488355328)) (k (j++[d.fdiv (2^8),bits BinOp.and Ae (d.fdiv (2^4)) 15,bits BinOp.and Ae d 15])) none))) (br ((↑c.length:Int) !=a) (k []) (jl c 4 (Aa.wrap (2*a)) fun i=>ab0 (Ae.wrap (Aa.wrap (15*(↑i.length:Int)))) (↑i.length:Int) 0 i fun e q r l=>br (decide ((l.length+([bits BinOp.and Ae (e.fdiv ((2:Int)^4)) (15:Int),bits BinOp.and Ae e (15:Int)].length.add 0).succ)*4≤140737488355328)) (k (l++[e.fdiv (2^8),bits BinOp.and Ae (e.fdiv (2^4)) 15,bits BinOp.and Ae e 15])) none))) (br ((↑c.length:Int) !=a) (k []) (jl c 4 (Aa.wrap (2*a)) fun f=>ab0 (Ae.wrap (Aa.wrap (15*(↑f.length:Int)))) (↑f.length:Int) 0 f fun b m n g=>br (decide ((g.length+([bits BinOp.and Ae (b.fdiv ((2:Int)^4)) (15:Int),bits BinOp.and Ae b (15:Int)].length.add 0).succ)*4≤140737488355328)) (k (g++[b.fdiv (2^8),bits BinOp.and Ae (b.fdiv (2^4)) 15,bits BinOp.and Ae b 15])) none))
def wu{ρ:Type}:=shut (ah5 (ρ:=ρ))
theorem aoj{ρ:Type}(a:Int)(b:List Int)(k:(List Int)→Option ρ):wu a b k=ah5 a b k:=by unfold wu;rw[bq]

abbrev b2f(ρ:Type):=(List Int)→Int→Int→Int→Int→Int→Int→Int→Bool→Nat→Int→(List Int)→Int→Bool→Int→Int→(List Int)→(List Int)→Int→Int→Int→(List Int)→(List Int)→Int→(List Int)→Option ρ
def adx{ρ:Type}(z:List Int)(y q r s t u v:Int)(w:Bool)(o:Nat)(a:Int)(b:List Int)(c:Int)(d:Bool)(e f:Int)(g h:List Int)(i j k:Int)(l m:List Int)(n:Int)(p:List Int)(nx B:b2f ρ):Option ρ:=br (decide (q<y)) (dh p 5 (Ad.wrap q) fun A=>br (decide (o=1)) (jh A z a b c d e fun C=>nx C y (Ae.wrap (q+1)) r s t u v w o a b c d e f g h i j k l m n p) (br (decide (o=2)) (jf A z f g h i j k l m n fun F=>nx F y (Ae.wrap (q+1)) r s t u v w o a b c d e f g h i j k l m n p) none)) (B z y q r s t u v w o a b c d e f g h i j k l m n p)
abbrev buh:=(List Int)×Int×Int×Int×Int×Int×Int×Int×Bool×Nat×Int×(List Int)×Int×Bool×Int×Int×(List Int)×(List Int)×Int×Int×Int×(List Int)×(List Int)×Int×(List Int)
abbrev bze:=buh
def b3c{ρ:Type}(f:buh→Option ρ):b2f ρ:=fun z A y p q r s t u v a b c d e g h i j k l m n o w=>f (z,A,y,p,q,r,s,t,u,v,a,b,c,d,e,g,h,i,j,k,l,m,n,o,w)
def bww{ρ:Type}:ahn buh bze ρ:=fun (y,z,w,o,p,q,r,s,t,u,a,b,c,d,e,f,g,h,i,j,k,l,m,n,v) next ex=>adx y z w o p q r s t u a b c d e f g h i j k l m n v (b3c next) (b3c ex)
def bz8{ρ:Type}:=shut (lp (bww (ρ:=ρ)))
theorem b5s{ρ:Type}:bz8 (ρ:=ρ)=lp bww:=bq _
def bxo{ρ:Type}(f:ahp buh bze ρ)(z:List Int)(A y p q r s t:Int)(u:Bool)(v:Nat)(a:Int)(b:List Int)(c:Int)(d:Bool)(e g:Int)(h i:List Int)(j k l:Int)(m n:List Int)(o:Int)(w:List Int)(B:b2f ρ):Option ρ:=f (z,A,y,p,q,r,s,t,u,v,a,b,c,d,e,g,h,i,j,k,l,m,n,o,w) (fun (z,A,y,p,q,r,s,t,u,v,a,b,c,d,e,g,h,i,j,k,l,m,n,o,w)=>B z A y p q r s t u v a b c d e g h i j k l m n o w)
def ahh{ρ:Type}:=bxo (lp (bww (ρ:=ρ)))
def ahd{ρ:Type}:=bxo (bz8 (ρ:=ρ))
theorem ali{ρ:Type}:ahd (ρ:=ρ)=ahh:=congrArg bxo b5s
def ac1{ρ:Type}(q r s t u:Int)(m:Bool)(v:Nat)(d:Int)(a:List Int)(n:Int)(l:Bool)(o e:Int)(b f:List Int)(g p h:Int)(c i:List Int)(j:Int)(w y:List Int)(z A:Int)(k:(List Int)→Option ρ):Option ρ:=ahd y A z q r s t u m v d a n l o e b f g p h c i j w fun B q1 q2 q3 q4 q5 q6 q7 q8 q9 C F G H I J M N O Q U W Z aa ab=>k B
def ku{ρ:Type}:=shut (ac1 (ρ:=ρ))
theorem ahc{ρ:Type}(q:Int)(r:Int)(s:Int)(t:Int)(u:Int)(m:Bool)(v:Nat)(d:Int)(a:List Int)(n:Int)(l:Bool)(o:Int)(e:Int)(b:List Int)(f:List Int)(g:Int)(p:Int)(h:Int)(c:List Int)(i:List Int)(j:Int)(w:List Int)(y:List Int)(z:Int)(A:Int)(k:(List Int)→Option ρ):ku q r s t u m v d a n l o e b f g p h c i j w y z A k=ac1 q r s t u m v d a n l o e b f g p h c i j w y z A k:=by unfold ku;rw[bq]

def aiy{ρ:Type}(b:List Int)(a:Int)(k:Int→Option ρ):Option ρ:=br (decide (0≤Aa.wrap (8+Aa.wrap (4*a)))) (br (decide (Aa.wrap (8+Aa.wrap (4*a))≤Aa.wrap (12+Aa.wrap (4*a)))) (br (decide (Aa.wrap (12+Aa.wrap (4*a))≤(↑32:Int))) (u6 (Ab (Aa.wrap (12+Aa.wrap (4*a))-Aa.wrap (8+Aa.wrap (4*a))).toNat (Ac (Aa.wrap (8+Aa.wrap (4*a))).toNat b)) fun c=>k c) none) none) none
def wo{ρ:Type}:=shut (aiy (ρ:=ρ))
theorem aov{ρ:Type}(a:List Int)(b:Int)(k:Int→Option ρ):wo a b k=aiy a b k:=by unfold wo;rw[bq]

def aec{ρ:Type}(r s t u v:Int)(q:Bool)(n:Nat)(d:Int)(a:List Int)(m:Int)(l:Bool)(o e:Int)(b f:List Int)(g p h:Int)(c i:List Int)(j:Int)(w y:List Int)(k:(List Int)→Option ρ):Option ρ:=dh y 2 1 fun A=>wo y 3 fun B=>dh A 3 B fun z=>br (decide (n=1)) (jh z w d a m l o fun C=>k C) (br (decide (n=2)) (jf z w e b f g p h c i j fun F=>k F) none)
def tq{ρ:Type}:=shut (aec (ρ:=ρ))
theorem aje{ρ:Type}(q:Int)(r:Int)(s:Int)(t:Int)(u:Int)(m:Bool)(v:Nat)(d:Int)(a:List Int)(n:Int)(l:Bool)(o:Int)(e:Int)(b:List Int)(f:List Int)(g:Int)(p:Int)(h:Int)(c:List Int)(i:List Int)(j:Int)(w:List Int)(y:List Int)(k:(List Int)→Option ρ):tq q r s t u m v d a n l o e b f g p h c i j w y k=aec q r s t u m v d a n l o e b f g p h c i j w y k:=by unfold tq;rw[bq]

abbrev bzj(ρ:Type):=(List Int)→Int→Int→(List Int)→Int→Int→Int→Int→Int→Bool→(List Int)→Int→Int→Int→Int→Int→Bool→Nat→Int→(List Int)→Int→Bool→Int→Int→(List Int)→(List Int)→Int→Int→Int→(List Int)→(List Int)→Int→(List Int)→Option ρ
def afm{ρ:Type}(q:List Int)(A p:Int)(J:List Int)(a B C F G:Int)(H:Bool)(r:List Int)(s t u v w:Int)(y:Bool)(z:Nat)(b:Int)(c:List Int)(d:Int)(e:Bool)(f g:Int)(h i:List Int)(j k l:Int)(m n:List Int)(o:Int)(I:List Int)(nx N:bzj ρ):Option ρ:=br (decide (p<A)) (br (decide (0≤p)) (br (decide (p<(↑I.length:Int))) (dh r 4 (Ad.wrap p) fun O=>br (decide (0≤a)) (br (decide (a≤(↑q.length:Int))) (ku s t u v w y z b c d e f g h i j k l m n o O (Ac 0 (Ab a.toNat q)) (I.getD p.toNat 0) 15 fun M=>br (decide ((J.length+M.length)*1≤140737488355328)) (br (decide (0≤a)) (br (decide (a≤(↑q.length:Int))) (br (decide ((↑q.length:Int)≤(↑q.length:Int))) (nx (Ac a.toNat (Ab (↑q.length:Int).toNat q)) A (Aa.wrap (p+1)) (J++M) a B C F G H r s t u v w y z b c d e f g h i j k l m n o I) none) none) none) none) none) none) none) none) (N q A p J a B C F G H r s t u v w y z b c d e f g h i j k l m n o I)
abbrev bul:=(List Int)×Int×Int×(List Int)×Int×Int×Int×Int×Int×Bool×(List Int)×Int×Int×Int×Int×Int×Bool×Nat×Int×(List Int)×Int×Bool×Int×Int×(List Int)×(List Int)×Int×Int×Int×(List Int)×(List Int)×Int×(List Int)
abbrev b1k:=bul
def b3t{ρ:Type}(f:bul→Option ρ):bzj ρ:=fun I G H J p q r s t u v w y z A B C F a b c d e g h i j k l m n o M=>f (I,G,H,J,p,q,r,s,t,u,v,w,y,z,A,B,C,F,a,b,c,d,e,g,h,i,j,k,l,m,n,o,M)
def bwf{ρ:Type}:ahn bul b1k ρ:=fun (H,F,G,I,o,p,q,r,s,t,u,v,w,y,z,A,B,C,a,b,c,d,e,f,g,h,i,j,k,l,m,n,J) next ex=>afm H F G I o p q r s t u v w y z A B C a b c d e f g h i j k l m n J (b3t next) (b3t ex)
def bz0{ρ:Type}:=shut (lp (bwf (ρ:=ρ)))
theorem b4l{ρ:Type}:bz0 (ρ:=ρ)=lp bwf:=bq _
def bwb{ρ:Type}(f:ahp bul b1k ρ)(I:List Int)(G H:Int)(J:List Int)(p q r s t:Int)(u:Bool)(v:List Int)(w y z A B:Int)(C:Bool)(F:Nat)(a:Int)(b:List Int)(c:Int)(d:Bool)(e g:Int)(h i:List Int)(j k l:Int)(m n:List Int)(o:Int)(M:List Int)(N:bzj ρ):Option ρ:=f (I,G,H,J,p,q,r,s,t,u,v,w,y,z,A,B,C,F,a,b,c,d,e,g,h,i,j,k,l,m,n,o,M) (fun (I,G,H,J,p,q,r,s,t,u,v,w,y,z,A,B,C,F,a,b,c,d,e,g,h,i,j,k,l,m,n,o,M)=>N I G H J p q r s t u v w y z A B C F a b c d e g h i j k l m n o M)
def aj6{ρ:Type}:=bwb (lp (bwf (ρ:=ρ)))
def akc{ρ:Type}:=bwb (bz0 (ρ:=ρ))
theorem an7{ρ:Type}:akc (ρ:=ρ)=aj6:=congrArg bwb b4l
def ae7{ρ:Type}(a c d e f:Int)(b:Bool)(t u a3 a4:List Int)(k:(List Int)→Option ρ):Option ρ:=vo a c d e f b a3 fun v w y z A B C F G H g h i j l m n o p q r I=>br (!I) (k []) (br ((↑u.length:Int) !=a) (k []) (pz v w y z A B C F G H g h i j l m n o p q r fun J=>br ((↑t.length:Int) !=Aa.wrap (a*J)) (k []) (wu a u fun s=>akc t (↑s.length:Int) 0 [] a c d e f b a4 v w y z A B C F G H g h i j l m n o p q r s fun ar au av M aw ax ay az a0 a5 N O Q U W Z aa ab ac ad ae af ag ah ai aj ak al am an ao ap a6=>tq O Q U W Z aa ab ac ad ae af ag ah ai aj ak al am an ao ap M N fun aq=>k aq)))
def wh{ρ:Type}:=shut (ae7 (ρ:=ρ))
theorem akl{ρ:Type}(b:Int)(c:Int)(d:Int)(e:Int)(f:Int)(a:Bool)(g:List Int)(h:List Int)(i:List Int)(j:List Int)(k:(List Int)→Option ρ):wh b c d e f a g h i j k=ae7 b c d e f a g h i j k:=by unfold wh;rw[bq]

def aey{ρ:Type}(d e f g h:Int)(a:Bool)(c i b:List Int)(j:Int)(k:(List Int)→Option ρ):Option ρ:=dh b 2 0 fun l=>dh l 3 j fun m=>k m
def qw{ρ:Type}:=shut (aey (ρ:=ρ))
theorem akz{ρ:Type}(c:Int)(d:Int)(e:Int)(f:Int)(g:Int)(a:Bool)(b:List Int)(h:List Int)(i:List Int)(j:Int)(k:(List Int)→Option ρ):qw c d e f g a b h i j k=aey c d e f g a b h i j k:=by unfold qw;rw[bq]

def aeo{ρ:Type}(b c d e f:Int)(a:Bool)(i g h:List Int)(j l:Int)(m n:List Int)(k:(List Int)→Option ρ):Option ρ:=dh h 2 2 fun o=>dh o 4 (Ad.wrap j) fun p=>dh p 5 l fun q=>dz [m,n] fun r=>yc b c d e f a g q r fun s=>k s
def ug{ρ:Type}:=shut (aeo (ρ:=ρ))
theorem akk{ρ:Type}(c:Int)(d:Int)(e:Int)(f:Int)(g:Int)(a:Bool)(b:List Int)(h:List Int)(i:List Int)(j:Int)(l:Int)(m:List Int)(n:List Int)(k:(List Int)→Option ρ):ug c d e f g a b h i j l m n k=aeo c d e f g a b h i j l m n k:=by unfold ug;rw[bq]

abbrev b36(ρ:Type):=Int→(List Int)→(List Int)→Int→Int→Int→Int→Int→Int→Int→Bool→Int→Int→Int→Int→Int→Bool→(List Int)→(List Int)→Option ρ
def af4{ρ:Type}(r:Int)(s b:List Int)(q c a l m n o:Int)(p:Bool)(d e f g h:Int)(i:Bool)(j k:List Int)(nx t:b36 ρ):Option ρ:=br (decide (c<q)) (br (decide ((0:Int)≤a)) (br (decide (a≤(↑b.length:Int))) (br (decide (c<(0:Int))) none (br (bits BinOp.and Ad (r.fdiv ((2:Int)^min c.toNat 64)) (1:Int)==(1:Int)) (br (decide (Aa.wrap (c+(1:Int))<(0:Int))) none (ug d e f g h i [] j k (Aa.wrap (c+(1:Int))) (r.fdiv ((2:Int)^min (Aa.wrap (c+(1:Int))).toNat 64)) (Ac 0 (Ab a.toNat b)) s fun u=>br (decide ((0:Int)≤a)) (br (decide (a≤(↑b.length:Int))) (br (decide ((↑b.length:Int)≤(↑b.length:Int))) (nx r u (Ac a.toNat (Ab (↑b.length:Int).toNat b)) q (Aa.wrap (c+(1:Int))) a l m n o p d e f g h i j k) none) none) none)) (br (decide (Aa.wrap (c+(1:Int))<(0:Int))) none (ug d e f g h i [] j k (Aa.wrap (c+(1:Int))) (r.fdiv ((2:Int)^min (Aa.wrap (c+(1:Int))).toNat 64)) s (Ac 0 (Ab a.toNat b)) fun v=>br (decide ((0:Int)≤a)) (br (decide (a≤(↑b.length:Int))) (br (decide ((↑b.length:Int)≤(↑b.length:Int))) (nx r v (Ac a.toNat (Ab (↑b.length:Int).toNat b)) q (Aa.wrap (c+(1:Int))) a l m n o p d e f g h i j k) none) none) none)))) none) none) (t r s b q c a l m n o p d e f g h i j k)
abbrev bts:=Int×(List Int)×(List Int)×Int×Int×Int×Int×Int×Int×Int×Bool×Int×Int×Int×Int×Int×Bool×(List Int)×(List Int)
abbrev b2r:=bts
def byb{ρ:Type}(f:bts→Option ρ):b36 ρ:=fun t p q r s a b c d e g h i j k l m n o=>f (t,p,q,r,s,a,b,c,d,e,g,h,i,j,k,l,m,n,o)
def bwn{ρ:Type}:ahn bts b2r ρ:=fun (s,o,p,q,r,a,b,c,d,e,f,g,h,i,j,k,l,m,n) next ex=>af4 s o p q r a b c d e f g h i j k l m n (byb next) (byb ex)
def byn{ρ:Type}:=shut (lp (bwn (ρ:=ρ)))
theorem b5r{ρ:Type}:byn (ρ:=ρ)=lp bwn:=bq _
def bxn{ρ:Type}(f:ahp bts b2r ρ)(t:Int)(p q:List Int)(r s a b c d e:Int)(g:Bool)(h i j k l:Int)(m:Bool)(n o:List Int)(u:b36 ρ):Option ρ:=f (t,p,q,r,s,a,b,c,d,e,g,h,i,j,k,l,m,n,o) (fun (t,p,q,r,s,a,b,c,d,e,g,h,i,j,k,l,m,n,o)=>u t p q r s a b c d e g h i j k l m n o)
def akv{ρ:Type}:=bxn (lp (bwn (ρ:=ρ)))
def akr{ρ:Type}:=bxn (byn (ρ:=ρ))
theorem an5{ρ:Type}:akr (ρ:=ρ)=akv:=congrArg bxn b5r
def aes{ρ:Type}(b c d e f:Int)(a:Bool)(g l i m:List Int)(j:Int)(k:(List Int)→Option ρ):Option ρ:=oo b c d e f a [i,l] fun o=>br (!o) (k []) (qj b c d e f a fun p=>br ((↑g.length:Int) !=p) (k []) (ig b c d e f a fun n=>br (decide (n<0)) none (br (j.fdiv (2^min n.toNat 64) !=0) (k []) (ig b c d e f a fun h=>br (decide (0≤Aa.wrap ((↑g.length:Int)-Aa.wrap (b*h)))) (br (decide (Aa.wrap ((↑g.length:Int)-Aa.wrap (b*h))≤(↑g.length:Int))) (qw b c d e f a [] i m j fun q=>wh b c d e f a (Ac 0 (Ab (Aa.wrap ((↑g.length:Int)-Aa.wrap (b*h))).toNat g)) l i q fun r=>br (decide (0≤Aa.wrap ((↑g.length:Int)-Aa.wrap (b*h)))) (br (decide (Aa.wrap ((↑g.length:Int)-Aa.wrap (b*h))≤(↑g.length:Int))) (br (decide ((↑g.length:Int)≤(↑g.length:Int))) (ig b c d e f a fun s=>akr j r (Ac (Aa.wrap ((↑g.length:Int)-Aa.wrap (b*h))).toNat (Ab (↑g.length:Int).toNat g)) s 0 b c d e f a b c d e f a i m fun Q t U u v w y z A B C F G H I J M N O=>k t) none) none) none) none) none))))
def iw{ρ:Type}:=shut (aes (ρ:=ρ))
theorem aky{ρ:Type}(b:Int)(c:Int)(d:Int)(e:Int)(f:Int)(a:Bool)(g:List Int)(h:List Int)(i:List Int)(j:List Int)(l:Int)(k:(List Int)→Option ρ):iw b c d e f a g h i j l k=aes b c d e f a g h i j l k:=by unfold iw;rw[bq]

abbrev b0g(ρ:Type):=(List Int)→(List Int)→Int→Int→Int→Option ρ
def ana{ρ:Type}(c d:List Int)(e b a:Int)(nx f:b0g ρ):Option ρ:=br (decide (a<b)) (br (decide (0≤a)) (br (decide (a<(↑c.length:Int))) (br (decide (0≤a)) (br (decide (a<(↑d.length:Int))) (nx c d (bits BinOp.or IntKind.u8 e (bits BinOp.xor IntKind.u8 (c.getD a.toNat 0) (d.getD a.toNat 0))) b (Aa.wrap (a+1))) none) none) none) none) (f c d e b a)
abbrev bty:=(List Int)×(List Int)×Int×Int×Int
abbrev b2i:=bty
def b0u{ρ:Type}(f:bty→Option ρ):b0g ρ:=fun c d e a b=>f (c,d,e,a,b)
def bwl{ρ:Type}:ahn bty b2i ρ:=fun (c,d,e,a,b) next ex=>ana c d e a b (b0u next) (b0u ex)
def b2b{ρ:Type}:=shut (lp (bwl (ρ:=ρ)))
theorem b4j{ρ:Type}:b2b (ρ:=ρ)=lp bwl:=bq _
def bvm{ρ:Type}(f:ahp bty b2i ρ)(c d:List Int)(e a b:Int)(g:b0g ρ):Option ρ:=f (c,d,e,a,b) (fun (c,d,e,a,b)=>g c d e a b)
def asx{ρ:Type}:=bvm (lp (bwl (ρ:=ρ)))
def atn{ρ:Type}:=bvm (b2b (ρ:=ρ))
theorem avk{ρ:Type}:atn (ρ:=ρ)=asx:=congrArg bvm b4j
def ak3{ρ:Type}(a b:List Int)(k:Bool→Option ρ):Option ρ:=br ((↑a.length:Int) !=(↑b.length:Int)) (k false) (atn a b 0 (↑a.length:Int) 0 fun d e c f g=>k (c==0))
def zk{ρ:Type}:=shut (ak3 (ρ:=ρ))
theorem ata{ρ:Type}(a:List Int)(b:List Int)(k:Bool→Option ρ):zk a b k=ak3 a b k:=by unfold zk;rw[bq]

abbrev b26(ρ:Type):=(List Int)→Int→Int→Int→Int→Int→Int→Int→Bool→(List Int)→(List Int)→(List Int)→Int→Int→Int→Int→Int→Bool→Int→Int→Option ρ
def ag7{ρ:Type}(p:List Int)(t s b c d e f:Int)(g:Bool)(q a o:List Int)(h i j k l:Int)(m:Bool)(n r:Int)(nx z:b26 ρ):Option ρ:=br (decide (s<t)) (dh [0,0,0,0,0,0,0,0,0,0,0,0,0,0,0,0,0,0,0,0,0,0,0,0,0,0,0,0,0,0,0,0] 0 (Ad.wrap s) fun A=>dh A 1 n fun B=>qj b c d e f g fun u=>br (decide (0≤u)) (br (decide (u≤(↑a.length:Int))) (iw b c d e f g (Ac 0 (Ab u.toNat a)) q o B r fun C=>qj b c d e f g fun v=>br (decide (0≤v)) (br (decide (v≤(↑a.length:Int))) (br (decide ((↑a.length:Int)≤(↑a.length:Int))) (ig h i j k l m fun w=>br (decide (w<0)) none (ig h i j k l m fun y=>br (decide (y<0)) none (nx p t (Aa.wrap (s+1)) b c d e f g C (Ac v.toNat (Ab (↑a.length:Int).toNat a)) o h i j k l m (n.fdiv (2^min y.toNat 64)) (bits BinOp.and Ad n (Ad.wrap (Ad.wrap (1*2^min w.toNat 64)-1)))))) none) none) none) none) none) (z p t s b c d e f g q a o h i j k l m n r)
abbrev bsg:=(List Int)×Int×Int×Int×Int×Int×Int×Int×Bool×(List Int)×(List Int)×(List Int)×Int×Int×Int×Int×Int×Bool×Int×Int
abbrev b1b:=bsg
def b3o{ρ:Type}(f:bsg→Option ρ):b26 ρ:=fun a t u b c d e g h i j k l m n o p q r s=>f (a,t,u,b,c,d,e,g,h,i,j,k,l,m,n,o,p,q,r,s)
def bwg{ρ:Type}:ahn bsg b1b ρ:=fun (a,s,t,b,c,d,e,f,g,h,i,j,k,l,m,n,o,p,q,r) next ex=>ag7 a s t b c d e f g h i j k l m n o p q r (b3o next) (b3o ex)
def b1w{ρ:Type}:=shut (lp (bwg (ρ:=ρ)))
theorem b48{ρ:Type}:b1w (ρ:=ρ)=lp bwg:=bq _
def bxl{ρ:Type}(f:ahp bsg b1b ρ)(a:List Int)(t u b c d e g:Int)(h:Bool)(i j k:List Int)(l m n o p:Int)(q:Bool)(r s:Int)(v:b26 ρ):Option ρ:=f (a,t,u,b,c,d,e,g,h,i,j,k,l,m,n,o,p,q,r,s) (fun (a,t,u,b,c,d,e,g,h,i,j,k,l,m,n,o,p,q,r,s)=>v a t u b c d e g h i j k l m n o p q r s)
def al1{ρ:Type}:=bxl (lp (bwg (ρ:=ρ)))
def al9{ρ:Type}:=bxl (b1w (ρ:=ρ))
theorem apg{ρ:Type}:al9 (ρ:=ρ)=al1:=congrArg bxl b48
def ahz{ρ:Type}(c d b e f:Int)(a:Bool)(h i j g:List Int)(l m:Int)(k:Bool→Option ρ):Option ρ:=oo c d b e f a [h,j,g] fun p=>br (!p) (k false) (qj c d b e f a fun q=>br ((↑i.length:Int) !=Aa.wrap (b*q)) (k false) (kr c d b e f a l m fun r=>br (!r) (k false) (al9 g b 0 c d b e f a h i j c d b e f a l m fun H I J M N O Q s t n u v w y z A B C F G=>zk n g fun o=>k o)))
def zy{ρ:Type}:=shut (ahz (ρ:=ρ))
theorem aom{ρ:Type}(b:Int)(c:Int)(d:Int)(e:Int)(f:Int)(a:Bool)(g:List Int)(h:List Int)(i:List Int)(j:List Int)(l:Int)(m:Int)(k:Bool→Option ρ):zy b c d e f a g h i j l m k=ahz b c d e f a g h i j l m k:=by unfold zy;rw[bq]

def ad3{ρ:Type}(a d e f g:Int)(b:Bool)(h a2 n c:List Int)(k:Int→Option ρ):Option ρ:=aaf a d e f g b fun q0 q1 q2=>ji a d e f g b fun q3=>br (!q3) (k 9) (br ((↑h.length:Int) !=Aa.wrap (2*a)) (k 10) (br (decide ((↑n.length:Int)>255)) (k 2) (br ((↑c.length:Int) !=q2) (k 1) (jo a d e f g b fun i q5=>br (decide (0≤a)) (br (decide (a≤(↑h.length:Int))) (br (decide (0≤a)) (br (decide (a≤(↑h.length:Int))) (br (decide ((↑h.length:Int)≤(↑h.length:Int))) (br (decide (0≤a)) (br (decide (a≤(↑c.length:Int))) (br (decide (0≤a)) (br (decide (a≤(↑c.length:Int))) (br (decide ((↑c.length:Int)≤(↑c.length:Int))) (abh a d e f g b fun q6 q7 q8 q9 o p q r s t u v w y z A B C F G H I J M N O Q U=>aby a2 n fun W=>qg q6 q7 q8 q9 o p q r s t u v w y z A B C F G H I J M N O Q U (Ac 0 (Ab a.toNat c)) h W fun j l m=>br (decide (0≤i)) (br (decide (i≤(↑(Ac a.toNat (Ab (↑c.length:Int).toNat c)).length:Int))) (og j l m fun Z=>ny a d e f g b (Ac 0 (Ab i.toNat (Ac a.toNat (Ab (↑c.length:Int).toNat c)))) j (Ac 0 (Ab a.toNat h)) Z fun aa=>br (decide (0≤i)) (br (decide (i≤(↑(Ac a.toNat (Ab (↑c.length:Int).toNat c)).length:Int))) (br (decide ((↑(Ac a.toNat (Ab (↑c.length:Int).toNat c)).length:Int)≤(↑(Ac a.toNat (Ab (↑c.length:Int).toNat c)).length:Int))) (zy a d e f g b aa (Ac i.toNat (Ab (↑(Ac a.toNat (Ab (↑c.length:Int).toNat c)).length:Int).toNat (Ac a.toNat (Ab (↑c.length:Int).toNat c)))) (Ac 0 (Ab a.toNat h)) (Ac a.toNat (Ab (↑h.length:Int).toNat h)) l m fun ab=>br (!ab) (k 11) (k 0)) none) none) none) none) none) none) none) none) none) none) none) none) none) none) none))))
def vv{ρ:Type}:=shut (ad3 (ρ:=ρ))
theorem ahr{ρ:Type}(b:Int)(c:Int)(d:Int)(e:Int)(f:Int)(a:Bool)(g:List Int)(h:List Int)(i:List Int)(j:List Int)(k:Int→Option ρ):vv b c d e f a g h i j k=ad3 b c d e f a g h i j k:=by unfold vv;rw[bq]

def apl{ρ:Type}(a:Int)(k:Int→Int→Int→Int→Int→Bool→Bool→Option ρ):Option ρ:=br (decide (a<(1:Int))) (k (0:Int) (0:Int) (0:Int) (0:Int) (0:Int) false false) (br (decide (a>(12:Int))) (k (0:Int) (0:Int) (0:Int) (0:Int) (0:Int) false false) (br (decide ((0:Int)≤Aa.wrap ((Aa.wrap (a-(1:Int))).tdiv (2:Int)))) (br (decide (Aa.wrap ((Aa.wrap (a-(1:Int))).tdiv (2:Int))<(↑6:Int))) (br (decide ((Aa.wrap ((Aa.wrap (a-(1:Int))).tdiv (2:Int))).toNat*5+5≤30)) (k ((Ab 5 (Ac ((Aa.wrap ((Aa.wrap (a-(1:Int))).tdiv (2:Int))).toNat*5) [(16:Int),(63:Int),(7:Int),(12:Int),(14:Int),(16:Int),(66:Int),(22:Int),(6:Int),(33:Int),(24:Int),(63:Int),(7:Int),(14:Int),(17:Int),(24:Int),(66:Int),(22:Int),(8:Int),(33:Int),(32:Int),(64:Int),(8:Int),(14:Int),(22:Int),(32:Int),(68:Int),(17:Int),(9:Int),(35:Int)])).getD 0 (0:Int)) ((Ab 5 (Ac ((Aa.wrap ((Aa.wrap (a-(1:Int))).tdiv (2:Int))).toNat*5) [(16:Int),(63:Int),(7:Int),(12:Int),(14:Int),(16:Int),(66:Int),(22:Int),(6:Int),(33:Int),(24:Int),(63:Int),(7:Int),(14:Int),(17:Int),(24:Int),(66:Int),(22:Int),(8:Int),(33:Int),(32:Int),(64:Int),(8:Int),(14:Int),(22:Int),(32:Int),(68:Int),(17:Int),(9:Int),(35:Int)])).getD 1 (0:Int)) ((Ab 5 (Ac ((Aa.wrap ((Aa.wrap (a-(1:Int))).tdiv (2:Int))).toNat*5) [(16:Int),(63:Int),(7:Int),(12:Int),(14:Int),(16:Int),(66:Int),(22:Int),(6:Int),(33:Int),(24:Int),(63:Int),(7:Int),(14:Int),(17:Int),(24:Int),(66:Int),(22:Int),(8:Int),(33:Int),(32:Int),(64:Int),(8:Int),(14:Int),(22:Int),(32:Int),(68:Int),(17:Int),(9:Int),(35:Int)])).getD 2 (0:Int)) ((Ab 5 (Ac ((Aa.wrap ((Aa.wrap (a-(1:Int))).tdiv (2:Int))).toNat*5) [(16:Int),(63:Int),(7:Int),(12:Int),(14:Int),(16:Int),(66:Int),(22:Int),(6:Int),(33:Int),(24:Int),(63:Int),(7:Int),(14:Int),(17:Int),(24:Int),(66:Int),(22:Int),(8:Int),(33:Int),(32:Int),(64:Int),(8:Int),(14:Int),(22:Int),(32:Int),(68:Int),(17:Int),(9:Int),(35:Int)])).getD 3 (0:Int)) ((Ab 5 (Ac ((Aa.wrap ((Aa.wrap (a-(1:Int))).tdiv (2:Int))).toNat*5) [(16:Int),(63:Int),(7:Int),(12:Int),(14:Int),(16:Int),(66:Int),(22:Int),(6:Int),(33:Int),(24:Int),(63:Int),(7:Int),(14:Int),(17:Int),(24:Int),(66:Int),(22:Int),(8:Int),(33:Int),(32:Int),(64:Int),(8:Int),(14:Int),(22:Int),(32:Int),(68:Int),(17:Int),(9:Int),(35:Int)])).getD 4 (0:Int)) (a.tmod (2:Int)==(0:Int)) true) none) none) none))
def als{ρ:Type}:=shut (apl (ρ:=ρ))
theorem axw{ρ:Type}(a:Int)(k:Int→Int→Int→Int→Int→Bool→Bool→Option ρ):als a k=apl a k:=by unfold als;rw[bq]

def ak1{ρ:Type}(k:Bool→Option ρ):Option ρ:=als 3 fun a b c d e f h=>aaf a b c d e f fun j l i=>br h (br (a==16&&(b==66&&(c==22&&(d==6&&(e==33&&(f==false&&true)))))) (br (i==17088) (vv a b c d e f [] [] [] [] fun g=>k (g==10)) (k false)) (k false)) (k false)
def zh{ρ:Type}:=shut (ak1 (ρ:=ρ))
theorem as6{ρ:Type}  (k:Bool→Option ρ):zh  k=ak1  k:=by unfold zh;rw[bq]

abbrev b2w(ρ:Type):=(List (List Int))→Int→Int→Option ρ
def aj9{ρ:Type}(b:List (List Int))(c a:Int)(nx d:b2w ρ)(e:Bool→Option ρ):Option ρ:=br (decide (a<c)) (br (decide (0≤a)) (br (decide (a<(↑b.length:Int))) (br (decide ((↑(b.getD a.toNat []).length:Int)>300)) (e false) (nx b c (Aa.wrap (a+1)))) none) none) (d b c a)
abbrev bwa:=(List (List Int))×Int×Int
abbrev b0t:=((List (List Int))×Int×Int) ⊕ (Bool)
def b42{ρ:Type}(f:bwa→Option ρ):b2w ρ:=fun a b c=>f (a,b,c)
def bv4{ρ:Type}:ahn bwa b0t ρ:=fun (a,b,c) next ex=>aj9 a b c (b42 next) (fun a b c=>ex (.inl (a,b,c))) (fun d=>ex (.inr d))
def b1d{ρ:Type}:=shut (lp (bv4 (ρ:=ρ)))
theorem b5g{ρ:Type}:b1d (ρ:=ρ)=lp bv4:=bq _
def bv5{ρ:Type}(f:ahp bwa b0t ρ)(a:List (List Int))(b c:Int)(d:b2w ρ)(e:Bool→Option ρ):Option ρ:=f (a,b,c) (Sum.elim (fun (a,b,c)=>d a b c) (fun x=>e x))
def ayl{ρ:Type}:=bv5 (lp (bv4 (ρ:=ρ)))
def aym{ρ:Type}:=bv5 (b1d (ρ:=ρ))
theorem az4{ρ:Type}:aym (ρ:=ρ)=ayl:=congrArg bv5 b5g
def ap3{ρ:Type}(a:List (List Int))(k:Bool→Option ρ):Option ρ:=aym a (↑a.length:Int) 0 (fun c d e=>k true) fun b=>k b
def ag9{ρ:Type}:=shut (ap3 (ρ:=ρ))
theorem axh{ρ:Type}(a:List (List Int))(k:Bool→Option ρ):ag9 a k=ap3 a k:=by unfold ag9;rw[bq]

def ac2{ρ:Type}(r s t u v:Int)(q:Bool)(n:Nat)(d:Int)(a:List Int)(m:Int)(l:Bool)(o e:Int)(b f:List Int)(g p h:Int)(c i:List Int)(j:Int)(w y:List Int)(A:Int)(k:(List Int)→Option ρ):Option ρ:=dh y 2 5 fun B=>wo y 3 fun C=>dh B 3 C fun F=>dh F 4 (Ad.wrap A) fun z=>br (decide (n=1)) (jh z w d a m l o fun G=>k G) (br (decide (n=2)) (jf z w e b f g p h c i j fun H=>k H) none)
def p9{ρ:Type}:=shut (ac2 (ρ:=ρ))
theorem ahe{ρ:Type}(q:Int)(r:Int)(s:Int)(t:Int)(u:Int)(m:Bool)(v:Nat)(d:Int)(a:List Int)(n:Int)(l:Bool)(o:Int)(e:Int)(b:List Int)(f:List Int)(g:Int)(p:Int)(h:Int)(c:List Int)(i:List Int)(j:Int)(w:List Int)(y:List Int)(z:Int)(k:(List Int)→Option ρ):p9 q r s t u m v d a n l o e b f g p h c i j w y z k=ac2 q r s t u m v d a n l o e b f g p h c i j w y z k:=by unfold p9;rw[bq]

abbrev b2j(ρ:Type):=(List Int)→Int→Int→(List Int)→(List Int)→Int→Int→Int→Int→Int→Bool→Nat→Int→(List Int)→Int→Bool→Int→Int→(List Int)→(List Int)→Int→Int→Int→(List Int)→(List Int)→Int→Option ρ
def aj1{ρ:Type}(A:List Int)(y w:Int)(z o:List Int)(p q r s t:Int)(u:Bool)(v:Nat)(a:Int)(b:List Int)(c:Int)(d:Bool)(e f:Int)(g h:List Int)(i j k:Int)(l m:List Int)(n:Int)(nx C:b2j ρ):Option ρ:=br (decide (w<y)) (dh o 4 (Ad.wrap w) fun F=>p9 p q r s t u v a b c d e f g h i j k l m n A o w fun G=>ku p q r s t u v a b c d e f g h i j k l m n F G 0 15 fun B=>br (decide ((z.length+B.length)*1≤140737488355328)) (nx A y (Aa.wrap (w+1)) (z++B) o p q r s t u v a b c d e f g h i j k l m n) none) (C A y w z o p q r s t u v a b c d e f g h i j k l m n)
abbrev btg:=(List Int)×Int×Int×(List Int)×(List Int)×Int×Int×Int×Int×Int×Bool×Nat×Int×(List Int)×Int×Bool×Int×Int×(List Int)×(List Int)×Int×Int×Int×(List Int)×(List Int)×Int
abbrev b1n:=btg
def bzw{ρ:Type}(f:btg→Option ρ):b2j ρ:=fun B y z A p q r s t u v w a b c d e g h i j k l m n o=>f (B,y,z,A,p,q,r,s,t,u,v,w,a,b,c,d,e,g,h,i,j,k,l,m,n,o)
def bv2{ρ:Type}:ahn btg b1n ρ:=fun (A,w,y,z,o,p,q,r,s,t,u,v,a,b,c,d,e,f,g,h,i,j,k,l,m,n) next ex=>aj1 A w y z o p q r s t u v a b c d e f g h i j k l m n (bzw next) (bzw ex)
def byv{ρ:Type}:=shut (lp (bv2 (ρ:=ρ)))
theorem b39{ρ:Type}:byv (ρ:=ρ)=lp bv2:=bq _
def bv0{ρ:Type}(f:ahp btg b1n ρ)(B:List Int)(y z:Int)(A p:List Int)(q r s t u:Int)(v:Bool)(w:Nat)(a:Int)(b:List Int)(c:Int)(d:Bool)(e g:Int)(h i:List Int)(j k l:Int)(m n:List Int)(o:Int)(C:b2j ρ):Option ρ:=f (B,y,z,A,p,q,r,s,t,u,v,w,a,b,c,d,e,g,h,i,j,k,l,m,n,o) (fun (B,y,z,A,p,q,r,s,t,u,v,w,a,b,c,d,e,g,h,i,j,k,l,m,n,o)=>C B y z A p q r s t u v w a b c d e g h i j k l m n o)
def ao5{ρ:Type}:=bv0 (lp (bv2 (ρ:=ρ)))
def aoo{ρ:Type}:=bv0 (byv (ρ:=ρ))
theorem ar0{ρ:Type}:aoo (ρ:=ρ)=ao5:=congrArg bv0 b39
def aie{ρ:Type}(b o p q r:Int)(a:Bool)(s a2 a3:List Int)(k:(List Int)→Option ρ):Option ρ:=vo b o p q r a a2 fun t u v w y z A B C F c d e f g h i j l m n G=>br (!G) (k []) (br ((↑s.length:Int) !=b) (k []) (pz t u v w y z A B C F c d e f g h i j l m n fun H=>aoo s H 0 [] a3 t u v w y z A B C F c d e f g h i j l m n fun ap aq ar I J M N O Q U W Z aa ab ac ad ae af ag ah ai aj ak al am an=>tq M N O Q U W Z aa ab ac ad ae af ag ah ai aj ak al am an I J fun ao=>k ao))
def aan{ρ:Type}:=shut (aie (ρ:=ρ))
theorem aog{ρ:Type}(b:Int)(c:Int)(d:Int)(e:Int)(f:Int)(a:Bool)(g:List Int)(h:List Int)(i:List Int)(k:(List Int)→Option ρ):aan b c d e f a g h i k=aie b c d e f a g h i k:=by unfold aan;rw[bq]

def acf{ρ:Type}(rc:Int→Int→Int→Int→Int→Bool→(List Int)→(List Int)→(List Int)→Int→Int→((List Int)→Option ρ)→Option ρ)(c d e f g:Int)(a:Bool)(b h i:List Int)(j l:Int)(k:(List Int)→Option ρ):Option ρ:=br (j==0) (qw c d e f g a b h i l fun m=>aan c d e f g a b h m fun n=>k n) (rc c d e f g a b h i (Aa.wrap (j-1)) (Ad.wrap (2*l)) fun o=>rc c d e f g a b h i (Aa.wrap (j-1)) (Ad.wrap (Ad.wrap (2*l)+1)) fun p=>ug c d e f g a b h i j l o p fun q=>k q)
def qy{ρ:Type}(n:Nat):Int→Int→Int→Int→Int→Bool→(List Int)→(List Int)→(List Int)→Int→Int→((List Int)→Option ρ)→Option ρ:=Nat.rec (fun _ _ _ _ _ _ _ _ _ _ _ _=>none) (fun _ rc=>shut (acf (ρ:=ρ) rc)) n
theorem af2{ρ:Type}(n:Nat):qy (ρ:=ρ) (n+1)=acf (qy n):=bq _

def ald{ρ:Type}(b c d e f:Int)(a:Bool)(h i m:List Int)(g j:Int)(k:(List Int)→Option ρ):Option ρ:=oo b c d e f a [h,i] fun n=>br (!n) (k []) (br (decide (g<0)) (k []) (ig b c d e f a fun o=>br (decide (g>o)) (k []) (ig b c d e f a fun l=>br (decide (Aa.wrap (l-g)<0)) none (br (j.fdiv (2^min (Aa.wrap (l-g)).toNat 64) !=0) (k []) (qy (g.toNat+1) b c d e f a h i m g j fun p=>k p)))))
def aa8{ρ:Type}:=shut (ald (ρ:=ρ))
theorem atf{ρ:Type}(b:Int)(c:Int)(d:Int)(e:Int)(f:Int)(a:Bool)(g:List Int)(h:List Int)(i:List Int)(j:Int)(l:Int)(k:(List Int)→Option ρ):aa8 b c d e f a g h i j l k=ald b c d e f a g h i j l k:=by unfold aa8;rw[bq]

def anq{ρ:Type}(a d b e f:Int)(c:Bool)(g i h:List Int)(k:(List Int)→(List Int)→Int→Option ρ):Option ρ:=ji a d b e f c fun l=>br (!l) (k [] [] 9) (br ((↑g.length:Int) !=a) (k [] [] 14) (br ((↑i.length:Int) !=a) (k [] [] 14) (br ((↑h.length:Int) !=a) (k [] [] 14) (dh [0,0,0,0,0,0,0,0,0,0,0,0,0,0,0,0,0,0,0,0,0,0,0,0,0,0,0,0,0,0,0,0] 0 (Ad.wrap (Aa.wrap (b-1))) fun m=>br (decide (b=0)) none (aa8 a d b e f c g h m (Aa.wrap (d.tdiv b)) 0 fun n=>dz [h,n] fun j=>dz [g,i,j] fun o=>k j o 0)))))
def agi{ρ:Type}:=shut (anq (ρ:=ρ))
theorem auy{ρ:Type}(b:Int)(c:Int)(d:Int)(e:Int)(f:Int)(a:Bool)(g:List Int)(h:List Int)(i:List Int)(k:(List Int)→(List Int)→Int→Option ρ):agi b c d e f a g h i k=anq b c d e f a g h i k:=by unfold agi;rw[bq]

def ahb{ρ:Type}(b c d e f:Int)(a:Bool)(g h i:List Int)(k:Int→Int→Int→Int→Int→Bool→(List Int)→(List Int)→(List Int)→Bool→Option ρ):Option ρ:=ji b c d e f a fun j=>br j (br ((↑g.length:Int)==b) (k b c d e f a g h i ((↑h.length:Int)==b)) (k b c d e f a g h i false)) (k b c d e f a g h i false)
def qz{ρ:Type}:=shut (ahb (ρ:=ρ))
theorem anp{ρ:Type}(b:Int)(c:Int)(d:Int)(e:Int)(f:Int)(a:Bool)(g:List Int)(h:List Int)(i:List Int)(k:Int→Int→Int→Int→Int→Bool→(List Int)→(List Int)→(List Int)→Bool→Option ρ):qz b c d e f a g h i k=ahb b c d e f a g h i k:=by unfold qz;rw[bq]

def ak5{ρ:Type}(b c d e f:Int)(a:Bool)(h g i:List Int)(k:(List Int)→Option ρ):Option ρ:=br ((↑g.length:Int) !=b) (k []) (yc b c d e f a h i g fun j=>k j)
def agl{ρ:Type}:=shut (ak5 (ρ:=ρ))
theorem ath{ρ:Type}(b:Int)(c:Int)(d:Int)(e:Int)(f:Int)(a:Bool)(g:List Int)(h:List Int)(i:List Int)(k:(List Int)→Option ρ):agl b c d e f a g h i k=ak5 b c d e f a g h i k:=by unfold agl;rw[bq]

def aed{ρ:Type}(c d e f g:Int)(a:Bool)(b h i:List Int)(j:Int)(k:(List Int)→Option ρ):Option ρ:=mg c d e f g a b h i 6 fun l=>dh l 5 j fun m=>agl c d e f g a h b m fun n=>k n
def j6{ρ:Type}:=shut (aed (ρ:=ρ))
theorem ai6{ρ:Type}(c:Int)(d:Int)(e:Int)(f:Int)(g:Int)(a:Bool)(b:List Int)(h:List Int)(i:List Int)(j:Int)(k:(List Int)→Option ρ):j6 c d e f g a b h i j k=aed c d e f g a b h i j k:=by unfold j6;rw[bq]

abbrev b29(ρ:Type):=Int→Int→Int→Int→Nat→(List Int)→(List (List Int))→Int→Int→Int→Int→Int→Bool→(List Int)→(List Int)→(List Int)→Int→(List Int)→Option ρ
def aeu{ρ:Type}(q r p a:Int)(c:Nat)(d:List Int)(e:List (List Int))(f g h i j:Int)(k:Bool)(l m n:List Int)(b:Int)(o:List Int)(nx s:b29 ρ):Option ρ:=br (decide (a>0)) (br (decide (0≤Aa.wrap (a-1))) (br (decide (Aa.wrap (a-1)<(↑c:Int))) (br (d.getD (Aa.wrap (a-1)).toNat 0==b) (br (decide (Aa.wrap (b+1)<0)) none (br (decide (0≤Aa.wrap (a-1))) (br (decide (Aa.wrap (a-1)<(↑c:Int))) (jr f g h i j k l m n (Aa.wrap (b+1)) (p.fdiv (2^min (Aa.wrap (b+1)).toNat 64)) [e.getD (Aa.wrap (a-1)).toNat [],o] fun t=>br (decide (0≤Aa.wrap (a-1))) (br (decide (Aa.wrap (a-1)≤(↑c:Int))) (nx q r p (↑(Aa.wrap (a-1)).toNat:Int) (min (Aa.wrap (a-1)).toNat c) (Ab (Aa.wrap (a-1)).toNat d) (Ab (Aa.wrap (a-1)).toNat e) f g h i j k l m n (Aa.wrap (b+1)) t) none) none) none) none)) (s q r p a c d e f g h i j k l m n b o)) none) none) (s q r p a c d e f g h i j k l m n b o)
abbrev bsx:=Int×Int×Int×Int×Nat×(List Int)×(List (List Int))×Int×Int×Int×Int×Int×Bool×(List Int)×(List Int)×(List Int)×Int×(List Int)
abbrev b3w:=bsx
def b2c{ρ:Type}(f:bsx→Option ρ):b29 ρ:=fun q r s p a b c d e g h i j k l m n o=>f (q,r,s,p,a,b,c,d,e,g,h,i,j,k,l,m,n,o)
def bvz{ρ:Type}:ahn bsx b3w ρ:=fun (p,q,r,o,a,b,c,d,e,f,g,h,i,j,k,l,m,n) next ex=>aeu p q r o a b c d e f g h i j k l m n (b2c next) (b2c ex)
def b1j{ρ:Type}:=shut (lp (bvz (ρ:=ρ)))
theorem b44{ρ:Type}:b1j (ρ:=ρ)=lp bvz:=bq _
def bxg{ρ:Type}(f:ahp bsx b3w ρ)(q r s p:Int)(a:Nat)(b:List Int)(c:List (List Int))(d e g h i:Int)(j:Bool)(k l m:List Int)(n:Int)(o:List Int)(t:b29 ρ):Option ρ:=f (q,r,s,p,a,b,c,d,e,g,h,i,j,k,l,m,n,o) (fun (q,r,s,p,a,b,c,d,e,g,h,i,j,k,l,m,n,o)=>t q r s p a b c d e g h i j k l m n o)
def ai3{ρ:Type}:=bxg (lp (bvz (ρ:=ρ)))
def ae0{ρ:Type}:=bxg (b1j (ρ:=ρ))
theorem aml{ρ:Type}:ae0 (ρ:=ρ)=ai3:=congrArg bxg b44
abbrev by1(ρ:Type):=Int→Int→Int→Nat→(List Int)→(List (List Int))→Int→Int→Int→Int→Int→Bool→(List Int)→(List Int)→(List Int)→Option ρ
def afb{ρ:Type}(l p j:Int)(k:Nat)(n:List Int)(o:List (List Int))(a b c d e:Int)(f:Bool)(g h i:List Int)(nx B:by1 ρ):Option ρ:=br (decide (l<0)) none (br (decide (j<Ad.wrap (Ad.wrap (p+1)*2^min l.toNat 64))) (j6 a b c d e f g h i j fun C=>jr a b c d e f g h i 0 j [C] fun F=>ae0 l p j (↑k:Int) k n o a b c d e f g h i 0 F fun G H I O m J M N q r s t u v w y z A=>br (decide ((m+1)*32≤140737488355328)) (nx G H (Ad.wrap (I+1)) (m+1) (bhy m J 0++[z]) (bhy m M []++[A]) N q r s t u v w y) none) (B l p j k n o a b c d e f g h i))
abbrev bu3:=Int×Int×Int×Nat×(List Int)×(List (List Int))×Int×Int×Int×Int×Int×Bool×(List Int)×(List Int)×(List Int)
abbrev b2o:=bu3
def b0h{ρ:Type}(f:bu3→Option ρ):by1 ρ:=fun n o p k l m a b c d e g h i j=>f (n,o,p,k,l,m,a,b,c,d,e,g,h,i,j)
def bw1{ρ:Type}:ahn bu3 b2o ρ:=fun (m,n,o,j,k,l,a,b,c,d,e,f,g,h,i) next ex=>afb m n o j k l a b c d e f g h i (b0h next) (b0h ex)
def b07{ρ:Type}:=shut (lp (bw1 (ρ:=ρ)))
theorem b4x{ρ:Type}:b07 (ρ:=ρ)=lp bw1:=bq _
def bw7{ρ:Type}(f:ahp bu3 b2o ρ)(n o p:Int)(k:Nat)(l:List Int)(m:List (List Int))(a b c d e:Int)(g:Bool)(h i j:List Int)(q:by1 ρ):Option ρ:=f (n,o,p,k,l,m,a,b,c,d,e,g,h,i,j) (fun (n,o,p,k,l,m,a,b,c,d,e,g,h,i,j)=>q n o p k l m a b c d e g h i j)
def ajc{ρ:Type}:=bw7 (lp (bw1 (ρ:=ρ)))
def ai5{ρ:Type}:=bw7 (b07 (ρ:=ρ))
theorem anb{ρ:Type}:ai5 (ρ:=ρ)=ajc:=congrArg bw7 b4x
def ad6{ρ:Type}(c d e f g:Int)(a:Bool)(b h i:List Int)(j l:Int)(k:(List Int)→Option ρ):Option ρ:=br (decide (j<0)) none (ai5 j l (Ad.wrap (l*2^min j.toNat 64)) 0 [] [] c d e f g a b h i fun t u v m w n y z A B o p q r s=>br (decide (0<(↑m:Int))) (k (n.getD 0 [])) none)
def o7{ρ:Type}:=shut (ad6 (ρ:=ρ))
theorem ai9{ρ:Type}(c:Int)(d:Int)(e:Int)(f:Int)(g:Int)(a:Bool)(b:List Int)(h:List Int)(i:List Int)(j:Int)(l:Int)(k:(List Int)→Option ρ):o7 c d e f g a b h i j l k=ad6 c d e f g a b h i j l k:=by unfold o7;rw[bq]

abbrev b0i(ρ:Type):=Int→Int→Int→(List Int)→Int→Int→Int→Int→Int→Bool→Int→Int→Int→Int→Int→Bool→(List Int)→(List Int)→(List Int)→Int→Int→Int→Int→Int→Bool→(List Int)→(List Int)→(List Int)→(List Int)→Option ρ
def aij{ρ:Type}(l m a:Int)(b:List Int)(n o p q r:Int)(s:Bool)(c d e f g:Int)(h:Bool)(i j k:List Int)(t u v w y:Int)(z:Bool)(A B C F:List Int)(nx H:b0i ρ):Option ρ:=br (decide (a<m)) (br (decide (a<0)) none (o7 c d e f g h i j k a (bits BinOp.xor Ad (l.fdiv (2^min a.toNat 64)) 1) fun G=>br (decide ((b.length+G.length)*1≤140737488355328)) (nx l m (Aa.wrap (a+1)) (b++G) n o p q r s c d e f g h i j k t u v w y z A B C F) none)) (H l m a b n o p q r s c d e f g h i j k t u v w y z A B C F)
abbrev btq:=Int×Int×Int×(List Int)×Int×Int×Int×Int×Int×Bool×Int×Int×Int×Int×Int×Bool×(List Int)×(List Int)×(List Int)×Int×Int×Int×Int×Int×Bool×(List Int)×(List Int)×(List Int)×(List Int)
abbrev b1g:=btq
def by2{ρ:Type}(f:btq→Option ρ):b0i ρ:=fun B C F a b c d e g h i j k l m n o p q r s t u v w y z A G=>f (B,C,F,a,b,c,d,e,g,h,i,j,k,l,m,n,o,p,q,r,s,t,u,v,w,y,z,A,G)
def bvx{ρ:Type}:ahn btq b1g ρ:=fun (A,B,C,a,b,c,d,e,f,g,h,i,j,k,l,m,n,o,p,q,r,s,t,u,v,w,y,z,F) next ex=>aij A B C a b c d e f g h i j k l m n o p q r s t u v w y z F (by2 next) (by2 ex)
def byw{ρ:Type}:=shut (lp (bvx (ρ:=ρ)))
theorem b4q{ρ:Type}:byw (ρ:=ρ)=lp bvx:=bq _
def bw5{ρ:Type}(f:ahp btq b1g ρ)(B C F:Int)(a:List Int)(b c d e g:Int)(h:Bool)(i j k l m:Int)(n:Bool)(o p q:List Int)(r s t u v:Int)(w:Bool)(y z A G:List Int)(H:b0i ρ):Option ρ:=f (B,C,F,a,b,c,d,e,g,h,i,j,k,l,m,n,o,p,q,r,s,t,u,v,w,y,z,A,G) (fun (B,C,F,a,b,c,d,e,g,h,i,j,k,l,m,n,o,p,q,r,s,t,u,v,w,y,z,A,G)=>H B C F a b c d e g h i j k l m n o p q r s t u v w y z A G)
def amt{ρ:Type}:=bw5 (lp (bvx (ρ:=ρ)))
def ani{ρ:Type}:=bw5 (byw (ρ:=ρ))
theorem aqi{ρ:Type}:ani (ρ:=ρ)=amt:=congrArg bw5 b4q
abbrev b1u(ρ:Type):=Int→Int→(List Int)→Int→Int→Int→Int→Int→Bool→Int→Int→Int→Int→Int→Bool→(List Int)→(List Int)→(List Int)→Int→Int→Int→Int→Int→Bool→(List Int)→(List Int)→(List Int)→(List Int)→Option ρ
def aj4{ρ:Type}(n a:Int)(c:List Int)(o p q d r:Int)(s:Bool)(e f g h i:Int)(j:Bool)(k l m:List Int)(t u v b w:Int)(y:Bool)(z A B C:List Int)(nx k0:b1u ρ):Option ρ:=br (decide (a<n)) (br (decide (0≤a)) (br (decide (a<(↑C.length:Int))) (br (decide (b<0)) none (j6 e f g h i j k l m (bits BinOp.or Ad (Ad.wrap (Ad.wrap a*2^min b.toNat 64)) (Ad.wrap (C.getD a.toNat 0))) fun F=>br (decide ((c.length+F.length)*1≤140737488355328)) (ani (bits BinOp.or Ad (Ad.wrap (Ad.wrap a*2^min b.toNat 64)) (Ad.wrap (C.getD a.toNat 0))) d 0 (c++F) o p q d r s e f g h i j k l m t u v b w y z A B C fun q1 q2 q3 q4 q5 q6 q7 q8 q9 G H I J M N O Q U W Z aa ab ac ad ae af ag ah ai=>nx n (Aa.wrap (a+1)) q4 q5 q6 q7 q8 q9 G H I J M N O Q U W Z aa ab ac ad ae af ag ah ai) none)) none) none) (k0 n a c o p q d r s e f g h i j k l m t u v b w y z A B C)
abbrev btc:=Int×Int×(List Int)×Int×Int×Int×Int×Int×Bool×Int×Int×Int×Int×Int×Bool×(List Int)×(List Int)×(List Int)×Int×Int×Int×Int×Int×Bool×(List Int)×(List Int)×(List Int)×(List Int)
abbrev b0j:=btc
def bx6{ρ:Type}(f:btc→Option ρ):b1u ρ:=fun B C a b c d e g h i j k l m n o p q r s t u v w y z A F=>f (B,C,a,b,c,d,e,g,h,i,j,k,l,m,n,o,p,q,r,s,t,u,v,w,y,z,A,F)
def bw2{ρ:Type}:ahn btc b0j ρ:=fun (A,B,a,b,c,d,e,f,g,h,i,j,k,l,m,n,o,p,q,r,s,t,u,v,w,y,z,C) next ex=>aj4 A B a b c d e f g h i j k l m n o p q r s t u v w y z C (bx6 next) (bx6 ex)
def bzp{ρ:Type}:=shut (lp (bw2 (ρ:=ρ)))
theorem b5a{ρ:Type}:bzp (ρ:=ρ)=lp bw2:=bq _
def bvt{ρ:Type}(f:ahp btc b0j ρ)(B C:Int)(a:List Int)(b c d e g:Int)(h:Bool)(i j k l m:Int)(n:Bool)(o p q:List Int)(r s t u v:Int)(w:Bool)(y z A F:List Int)(G:b1u ρ):Option ρ:=f (B,C,a,b,c,d,e,g,h,i,j,k,l,m,n,o,p,q,r,s,t,u,v,w,y,z,A,F) (fun (B,C,a,b,c,d,e,g,h,i,j,k,l,m,n,o,p,q,r,s,t,u,v,w,y,z,A,F)=>G B C a b c d e g h i j k l m n o p q r s t u v w y z A F)
def ao7{ρ:Type}:=bvt (lp (bw2 (ρ:=ρ)))
def aop{ρ:Type}:=bvt (bzp (ρ:=ρ))
theorem asf{ρ:Type}:aop (ρ:=ρ)=ao7:=congrArg bvt b5a
def ala{ρ:Type}(b c d e f:Int)(a:Bool)(j u v w:List Int)(k:(List Int)→Option ρ):Option ρ:=qz b c d e f a u v w fun l m n h i o p q r y=>jo b c d e f a fun z s=>br (!y) (k []) (br ((↑j.length:Int) !=s) (k []) (jl j h i fun g=>aop (↑g.length:Int) 0 [] b c d e f a l m n h i o p q r l m n h i o p q r g fun A B t C F G H I J M N O Q U W Z aa ab ac ad ae af ag ah ai aj ak al=>k t))
def abd{ρ:Type}:=shut (ala (ρ:=ρ))
theorem asl{ρ:Type}(b:Int)(c:Int)(d:Int)(e:Int)(f:Int)(a:Bool)(g:List Int)(h:List Int)(i:List Int)(j:List Int)(k:(List Int)→Option ρ):abd b c d e f a g h i j k=ala b c d e f a g h i j k:=by unfold abd;rw[bq]

abbrev b2q(ρ:Type):=(List Int)→Int→Int→(List Int)→(List Int)→Int→Int→Int→Int→Int→Bool→Nat→Int→(List Int)→Int→Bool→Int→Int→(List Int)→(List Int)→Int→Int→Int→(List Int)→(List Int)→Int→(List Int)→Option ρ
def amw{ρ:Type}(B:List Int)(y o:Int)(z p:List Int)(q r s t u:Int)(v:Bool)(w:Nat)(a:Int)(b:List Int)(c:Int)(d:Bool)(e f:Int)(g h:List Int)(i j k:Int)(l m:List Int)(n:Int)(A:List Int)(nx F:b2q ρ):Option ρ:=br (decide (o<y)) (br (decide (0≤o)) (br (decide (o<(↑A.length:Int))) (dh p 4 (Ad.wrap o) fun G=>p9 q r s t u v w a b c d e f g h i j k l m n B p o fun H=>ku q r s t u v w a b c d e f g h i j k l m n G H 0 (A.getD o.toNat 0) fun C=>br (decide ((z.length+C.length)*1≤140737488355328)) (nx B y (Aa.wrap (o+1)) (z++C) p q r s t u v w a b c d e f g h i j k l m n A) none) none) none) (F B y o z p q r s t u v w a b c d e f g h i j k l m n A)
abbrev bum:=(List Int)×Int×Int×(List Int)×(List Int)×Int×Int×Int×Int×Int×Bool×Nat×Int×(List Int)×Int×Bool×Int×Int×(List Int)×(List Int)×Int×Int×Int×(List Int)×(List Int)×Int×(List Int)
abbrev b0v:=bum
def b3k{ρ:Type}(f:bum→Option ρ):b2q ρ:=fun B y z A p q r s t u v w a b c d e g h i j k l m n o C=>f (B,y,z,A,p,q,r,s,t,u,v,w,a,b,c,d,e,g,h,i,j,k,l,m,n,o,C)
def bvp{ρ:Type}:ahn bum b0v ρ:=fun (A,w,y,z,o,p,q,r,s,t,u,v,a,b,c,d,e,f,g,h,i,j,k,l,m,n,B) next ex=>amw A w y z o p q r s t u v a b c d e f g h i j k l m n B (b3k next) (b3k ex)
def b0b{ρ:Type}:=shut (lp (bvp (ρ:=ρ)))
theorem b5e{ρ:Type}:b0b (ρ:=ρ)=lp bvp:=bq _
def bx3{ρ:Type}(f:ahp bum b0v ρ)(B:List Int)(y z:Int)(A p:List Int)(q r s t u:Int)(v:Bool)(w:Nat)(a:Int)(b:List Int)(c:Int)(d:Bool)(e g:Int)(h i:List Int)(j k l:Int)(m n:List Int)(o:Int)(C:List Int)(F:b2q ρ):Option ρ:=f (B,y,z,A,p,q,r,s,t,u,v,w,a,b,c,d,e,g,h,i,j,k,l,m,n,o,C) (fun (B,y,z,A,p,q,r,s,t,u,v,w,a,b,c,d,e,g,h,i,j,k,l,m,n,o,C)=>F B y z A p q r s t u v w a b c d e g h i j k l m n o C)
def atl{ρ:Type}:=bx3 (lp (bvp (ρ:=ρ)))
def asr{ρ:Type}:=bx3 (b0b (ρ:=ρ))
theorem auv{ρ:Type}:asr (ρ:=ρ)=atl:=congrArg bx3 b5e
def ak2{ρ:Type}(a d e f g:Int)(b:Bool)(h i y z:List Int)(k:(List Int)→Option ρ):Option ρ:=vo a d e f g b y fun A B C F G H I J M N j l m n o p q r s t u v=>br (!v) (k []) (br ((↑i.length:Int) !=a) (k []) (br ((↑h.length:Int) !=a) (k []) (wu a h fun c=>asr i (↑c.length:Int) 0 [] z A B C F G H I J M N j l m n o p q r s t u c fun O Q U w W Z aa ab ac ad ae af ag ah ai aj ak al am an ao ap aq ar au av aw=>k w)))
def ac6{ρ:Type}:=shut (ak2 (ρ:=ρ))
theorem aso{ρ:Type}(b:Int)(c:Int)(d:Int)(e:Int)(f:Int)(a:Bool)(g:List Int)(h:List Int)(i:List Int)(j:List Int)(k:(List Int)→Option ρ):ac6 b c d e f a g h i j k=ak2 b c d e f a g h i j k:=by unfold ac6;rw[bq]

abbrev b0z(ρ:Type):=Int→Int→Int→(List Int)→Int→Int→Int→Int→Int→Bool→(List Int)→(List Int)→(List Int)→Option ρ
def am6{ρ:Type}(m k a:Int)(l:List Int)(b c d e f:Int)(g:Bool)(h i j:List Int)(nx o:b0z ρ):Option ρ:=br (decide (a<k)) (br (decide (a<0)) none (qy (a.toNat+1) b c d e f g h i j a (bits BinOp.xor Ad (m.fdiv (2^min a.toNat 64)) 1) fun n=>br (decide ((l.length+n.length)*1≤140737488355328)) (nx m k (Aa.wrap (a+1)) (l++n) b c d e f g h i j) none)) (o m k a l b c d e f g h i j)
abbrev btj:=Int×Int×Int×(List Int)×Int×Int×Int×Int×Int×Bool×(List Int)×(List Int)×(List Int)
abbrev byl:=btj
def b2h{ρ:Type}(f:btj→Option ρ):b0z ρ:=fun n k l m a b c d e g h i j=>f (n,k,l,m,a,b,c,d,e,g,h,i,j)
def bx4{ρ:Type}:ahn btj byl ρ:=fun (m,j,k,l,a,b,c,d,e,f,g,h,i) next ex=>am6 m j k l a b c d e f g h i (b2h next) (b2h ex)
def b1y{ρ:Type}:=shut (lp (bx4 (ρ:=ρ)))
theorem b5f{ρ:Type}:b1y (ρ:=ρ)=lp bx4:=bq _
def bwe{ρ:Type}(f:ahp btj byl ρ)(n k l:Int)(m:List Int)(a b c d e:Int)(g:Bool)(h i j:List Int)(o:b0z ρ):Option ρ:=f (n,k,l,m,a,b,c,d,e,g,h,i,j) (fun (n,k,l,m,a,b,c,d,e,g,h,i,j)=>o n k l m a b c d e g h i j)
def asy{ρ:Type}:=bwe (lp (bx4 (ρ:=ρ)))
def as5{ρ:Type}:=bwe (b1y (ρ:=ρ))
theorem av2{ρ:Type}:as5 (ρ:=ρ)=asy:=congrArg bwe b5f
def aln{ρ:Type}(b c d e f:Int)(a:Bool)(j g h l:List Int)(i:Int)(k:(List Int)→Option ρ):Option ρ:=oo b c d e f a [g,h,j] fun n=>br (!n) (k []) (ig b c d e f a fun m=>br (decide (m<0)) none (br (i.fdiv (2^min m.toNat 64) !=0) (k []) (qw b c d e f a g h l i fun o=>ac6 b c d e f a j g h o fun p=>ig b c d e f a fun q=>as5 i q 0 p b c d e f a g h l fun B C F r G s t u v w y z A=>k r)))
def zl{ρ:Type}:=shut (aln (ρ:=ρ))
theorem atb{ρ:Type}(b:Int)(c:Int)(d:Int)(e:Int)(f:Int)(a:Bool)(g:List Int)(h:List Int)(i:List Int)(j:List Int)(l:Int)(k:(List Int)→Option ρ):zl b c d e f a g h i j l k=aln b c d e f a g h i j l k:=by unfold zl;rw[bq]

abbrev b34(ρ:Type):=Int→Int→(List Int)→Int→Int→Int→Int→Int→Bool→(List Int)→(List Int)→(List Int)→Int→Int→Int→Int→Int→Bool→Int→Int→Option ρ
def ah8{ρ:Type}(t s:Int)(o:List Int)(a b c d e:Int)(f:Bool)(p q g:List Int)(h i j k l:Int)(m:Bool)(n r:Int)(nx z:b34 ρ):Option ρ:=br (decide (s<t)) (dh [0,0,0,0,0,0,0,0,0,0,0,0,0,0,0,0,0,0,0,0,0,0,0,0,0,0,0,0,0,0,0,0] 0 (Ad.wrap s) fun A=>dh A 1 n fun v=>zl a b c d e f p q g v r fun u=>br (decide ((o.length+u.length)*1≤140737488355328)) (iw a b c d e f u p g v r fun B=>ig h i j k l m fun w=>br (decide (w<0)) none (ig h i j k l m fun y=>br (decide (y<0)) none (nx t (Aa.wrap (s+1)) (o++u) a b c d e f B q g h i j k l m (n.fdiv (2^min y.toNat 64)) (bits BinOp.and Ad n (Ad.wrap (Ad.wrap (1*2^min w.toNat 64)-1)))))) none) (z t s o a b c d e f p q g h i j k l m n r)
abbrev buo:=Int×Int×(List Int)×Int×Int×Int×Int×Int×Bool×(List Int)×(List Int)×(List Int)×Int×Int×Int×Int×Int×Bool×Int×Int
abbrev b0a:=buo
def bz3{ρ:Type}(f:buo→Option ρ):b34 ρ:=fun t u a b c d e g h i j k l m n o p q r s=>f (t,u,a,b,c,d,e,g,h,i,j,k,l,m,n,o,p,q,r,s)
def bvl{ρ:Type}:ahn buo b0a ρ:=fun (s,t,a,b,c,d,e,f,g,h,i,j,k,l,m,n,o,p,q,r) next ex=>ah8 s t a b c d e f g h i j k l m n o p q r (bz3 next) (bz3 ex)
def b3n{ρ:Type}:=shut (lp (bvl (ρ:=ρ)))
theorem b4d{ρ:Type}:b3n (ρ:=ρ)=lp bvl:=bq _
def bwh{ρ:Type}(f:ahp buo b0a ρ)(t u:Int)(a:List Int)(b c d e g:Int)(h:Bool)(i j k:List Int)(l m n o p:Int)(q:Bool)(r s:Int)(v:b34 ρ):Option ρ:=f (t,u,a,b,c,d,e,g,h,i,j,k,l,m,n,o,p,q,r,s) (fun (t,u,a,b,c,d,e,g,h,i,j,k,l,m,n,o,p,q,r,s)=>v t u a b c d e g h i j k l m n o p q r s)
def amm{ρ:Type}:=bwh (lp (bvl (ρ:=ρ)))
def am3{ρ:Type}:=bwh (b3n (ρ:=ρ))
theorem aqv{ρ:Type}:am3 (ρ:=ρ)=amm:=congrArg bwh b4d
def ajm{ρ:Type}(c d b e f:Int)(a:Bool)(g h i:List Int)(j l:Int)(k:(List Int)→Option ρ):Option ρ:=oo c d b e f a [g,h,i] fun m=>br (!m) (k []) (kr c d b e f a j l fun n=>br (!n) (k []) (am3 b 0 [] c d b e f a g h i c d b e f a j l fun C F o G H I J M p q r s t u v w y z A B=>k o))
def aag{ρ:Type}:=shut (ajm (ρ:=ρ))
theorem aq1{ρ:Type}(b:Int)(c:Int)(d:Int)(e:Int)(f:Int)(a:Bool)(g:List Int)(h:List Int)(i:List Int)(j:Int)(l:Int)(k:(List Int)→Option ρ):aag b c d e f a g h i j l k=ajm b c d e f a g h i j l k:=by unfold aag;rw[bq]

def amx{ρ:Type}(a d e f g:Int)(b:Bool)(c a2 a3 Z:List Int)(k:(List Int)→Int→Option ρ):Option ρ:=ji a d e f g b fun q0=>br (!q0) (k [] 9) (br ((↑c.length:Int) !=Aa.wrap (4*a)) (k [] 10) (br ((↑Z.length:Int) !=a) (k [] 14) (br (decide ((↑a3.length:Int)>255)) (k [] 2) (abh a d e f g b fun q1 q2 q3 q4 q5 q6 B q8 q9 l m n o p q r s t u v C F G H I J M N=>aby a2 a3 fun h=>br (decide (0≤a)) (br (decide (a≤(↑c.length:Int))) (br (decide (0≤a)) (br (decide (a≤Aa.wrap (2*a))) (br (decide (Aa.wrap (2*a)≤(↑c.length:Int))) (br (decide (0≤Aa.wrap (2*a))) (br (decide (Aa.wrap (2*a)≤(↑c.length:Int))) (br (decide ((↑c.length:Int)≤(↑c.length:Int))) (br (decide (0≤a)) (br (decide (a≤(↑(Ac (Aa.wrap (2*a)).toNat (Ab (↑c.length:Int).toNat c)).length:Int))) (br (decide (B=1)) (qh (Ac a.toNat (Ab (Aa.wrap (2*a)).toNat c)) Z h q8 q9 l m n o fun O=>qg q1 q2 q3 q4 q5 q6 B q8 q9 l m n o p q r s t u v C F G H I J M N O (Ac (Aa.wrap (2*a)).toNat (Ab (↑c.length:Int).toNat c)) h fun i w y=>og i w y fun aa=>abd a d e f g b i (Ac 0 (Ab a.toNat c)) (Ac 0 (Ab a.toNat (Ac (Aa.wrap (2*a)).toNat (Ab (↑c.length:Int).toNat c)))) aa fun Q=>og i w y fun ab=>ny a d e f g b Q i (Ac 0 (Ab a.toNat (Ac (Aa.wrap (2*a)).toNat (Ab (↑c.length:Int).toNat c)))) ab fun ac=>aag a d e f g b ac (Ac 0 (Ab a.toNat c)) (Ac 0 (Ab a.toNat (Ac (Aa.wrap (2*a)).toNat (Ab (↑c.length:Int).toNat c)))) w y fun ad=>dz [O,Q,ad] fun ae=>k ae 0) (br (decide (B=2)) (qc (Ac a.toNat (Ab (Aa.wrap (2*a)).toNat c)) Z h p q r s t u v fun U=>qg q1 q2 q3 q4 q5 q6 B q8 q9 l m n o p q r s t u v C F G H I J M N U (Ac (Aa.wrap (2*a)).toNat (Ab (↑c.length:Int).toNat c)) h fun j z A=>og j z A fun af=>abd a d e f g b j (Ac 0 (Ab a.toNat c)) (Ac 0 (Ab a.toNat (Ac (Aa.wrap (2*a)).toNat (Ab (↑c.length:Int).toNat c)))) af fun W=>og j z A fun ag=>ny a d e f g b W j (Ac 0 (Ab a.toNat (Ac (Aa.wrap (2*a)).toNat (Ab (↑c.length:Int).toNat c)))) ag fun ah=>aag a d e f g b ah (Ac 0 (Ab a.toNat c)) (Ac 0 (Ab a.toNat (Ac (Aa.wrap (2*a)).toNat (Ab (↑c.length:Int).toNat c)))) z A fun ai=>dz [U,W,ai] fun aj=>k aj 0) none)) none) none) none) none) none) none) none) none) none) none))))
def agh{ρ:Type}:=shut (amx (ρ:=ρ))
theorem au6{ρ:Type}(b:Int)(c:Int)(d:Int)(e:Int)(f:Int)(a:Bool)(g:List Int)(h:List Int)(i:List Int)(j:List Int)(k:(List Int)→Int→Option ρ):agh b c d e f a g h i j k=amx b c d e f a g h i j k:=by unfold agh;rw[bq]

def ag4{ρ:Type}(a:Int)(b z:Bool)(j l m n f c:List Int)(k:Bool→Option ρ):Option ρ:=ag9 [f,c] fun A=>br (!A) (zh fun B=>k B) (br (decide ((↑c.length:Int)>255)) (zh fun C=>k C) (br z (br (decide (0≤Aa.wrap (16+Aa.wrap (8*Aa.wrap (a.tmod 3))))) (br (decide (Aa.wrap (16+Aa.wrap (8*Aa.wrap (a.tmod 3)))≤(↑32:Int))) (br (decide (0≤Aa.wrap (16+Aa.wrap (8*Aa.wrap (a.tmod 3))))) (br (decide (Aa.wrap (16+Aa.wrap (8*Aa.wrap (a.tmod 3)))≤(↑32:Int))) (br (decide (0≤Aa.wrap (16+Aa.wrap (8*Aa.wrap (a.tmod 3))))) (br (decide (Aa.wrap (16+Aa.wrap (8*Aa.wrap (a.tmod 3)))≤(↑32:Int))) (agi (Aa.wrap (16+Aa.wrap (8*Aa.wrap (a.tmod 3)))) 2 2 2 3 b (Ab (Aa.wrap (16+Aa.wrap (8*Aa.wrap (a.tmod 3)))-0).toNat (Ac 0 j)) (Ab (Aa.wrap (16+Aa.wrap (8*Aa.wrap (a.tmod 3)))-0).toNat (Ac 0 l)) (Ab (Aa.wrap (16+Aa.wrap (8*Aa.wrap (a.tmod 3)))-0).toNat (Ac 0 m)) fun o F G=>br (decide (0≤Aa.wrap (16+Aa.wrap (8*Aa.wrap (a.tmod 3))))) (br (decide (Aa.wrap (16+Aa.wrap (8*Aa.wrap (a.tmod 3)))≤(↑32:Int))) (agh (Aa.wrap (16+Aa.wrap (8*Aa.wrap (a.tmod 3)))) 2 2 2 3 b F f c (Ab (Aa.wrap (16+Aa.wrap (8*Aa.wrap (a.tmod 3)))-0).toNat (Ac 0 n)) fun h H=>aaf (Aa.wrap (16+Aa.wrap (8*Aa.wrap (a.tmod 3)))) 2 2 2 3 b fun M N d=>br (G !=0) (k false) (br (H !=0) (k false) (br (decide (d<1)) (k false) (br ((↑h.length:Int) !=d) (k false) (vv (Aa.wrap (16+Aa.wrap (8*Aa.wrap (a.tmod 3)))) 2 2 2 3 b o f c h fun p=>br (p !=0) (k false) (br (decide (0≤Aa.wrap (d-1))) (br (decide (Aa.wrap (d-1)≤(↑h.length:Int))) (vv (Aa.wrap (16+Aa.wrap (8*Aa.wrap (a.tmod 3)))) 2 2 2 3 b o f c (Ab (Aa.wrap (d-1)-0).toNat (Ac 0 h)) fun q=>br (q==1) (zh fun r=>k r) (k false)) none) none)))))) none) none) none) none) none) none) none) none) (br (decide (0≤Aa.wrap (16+Aa.wrap (8*Aa.wrap (a.tmod 3))))) (br (decide (Aa.wrap (16+Aa.wrap (8*Aa.wrap (a.tmod 3)))≤(↑32:Int))) (br (decide (0≤Aa.wrap (16+Aa.wrap (8*Aa.wrap (a.tmod 3))))) (br (decide (Aa.wrap (16+Aa.wrap (8*Aa.wrap (a.tmod 3)))≤(↑32:Int))) (br (decide (0≤Aa.wrap (16+Aa.wrap (8*Aa.wrap (a.tmod 3))))) (br (decide (Aa.wrap (16+Aa.wrap (8*Aa.wrap (a.tmod 3)))≤(↑32:Int))) (agi (Aa.wrap (16+Aa.wrap (8*Aa.wrap (a.tmod 3)))) 1 1 2 3 b (Ab (Aa.wrap (16+Aa.wrap (8*Aa.wrap (a.tmod 3)))-0).toNat (Ac 0 j)) (Ab (Aa.wrap (16+Aa.wrap (8*Aa.wrap (a.tmod 3)))-0).toNat (Ac 0 l)) (Ab (Aa.wrap (16+Aa.wrap (8*Aa.wrap (a.tmod 3)))-0).toNat (Ac 0 m)) fun i s t=>br (decide (0≤Aa.wrap (16+Aa.wrap (8*Aa.wrap (a.tmod 3))))) (br (decide (Aa.wrap (16+Aa.wrap (8*Aa.wrap (a.tmod 3)))≤(↑32:Int))) (agh (Aa.wrap (16+Aa.wrap (8*Aa.wrap (a.tmod 3)))) 1 1 2 3 b s f c (Ab (Aa.wrap (16+Aa.wrap (8*Aa.wrap (a.tmod 3)))-0).toNat (Ac 0 n)) fun g u=>aaf (Aa.wrap (16+Aa.wrap (8*Aa.wrap (a.tmod 3)))) 1 1 2 3 b fun I J e=>br (t !=0) (k false) (br (u !=0) (k false) (br (decide (e<1)) (k false) (br ((↑g.length:Int) !=e) (k false) (vv (Aa.wrap (16+Aa.wrap (8*Aa.wrap (a.tmod 3)))) 1 1 2 3 b i f c g fun v=>br (v !=0) (k false) (br (decide (0≤Aa.wrap (e-1))) (br (decide (Aa.wrap (e-1)≤(↑g.length:Int))) (vv (Aa.wrap (16+Aa.wrap (8*Aa.wrap (a.tmod 3)))) 1 1 2 3 b i f c (Ab (Aa.wrap (e-1)-0).toNat (Ac 0 g)) fun w=>br (w==1) (zh fun y=>k y) (k false)) none) none)))))) none) none) none) none) none) none) none) none)))
def aa0{ρ:Type}:=shut (ag4 (ρ:=ρ))
theorem ams{ρ:Type}(a:Int)(b:Bool)(c:Bool)(d:List Int)(e:List Int)(f:List Int)(g:List Int)(h:List Int)(i:List Int)(k:Bool→Option ρ):aa0 a b c d e f g h i k=ag4 a b c d e f g h i k:=by unfold aa0;rw[bq]









































































































































































































































end P
end
