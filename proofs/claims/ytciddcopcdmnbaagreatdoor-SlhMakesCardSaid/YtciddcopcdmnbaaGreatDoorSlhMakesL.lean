/-
  SlhMakes, part 12: an interpreter of my own over abstract values, the pure functions, the walks and the plain law.
-/

import Derived.Test.YtciddcopcdmnbaaGreatDoorSlhMakesH
import Derived.Test.YtciddcopcdmnbaaGreatDoorSlhMakesI
import Derived.Test.YtciddcopcdmnbaaGreatDoorSlhMakesK
open Go.IntKind renaming i64 → Aa, u64 → Ab, u32 → Ae, u8 → Ag
open List renaming take → Ac, drop → Ad, replicate → Af

noncomputable section
open Go Go.Abs
set_option linter.unusedVariables false
namespace P

abbrev b94(ρ:Type):=Int→Int→(List Int)→Int→Int→Int→Int→Int→Bool→(List Int)→Int→Int→Int→Int→Int→Bool→(List Int)→(List Int)→Int→Int→Int→Int→Int→Bool→(List Int)→(List Int)→(List Int)→Option ρ
def aev{ρ:Type}(o b:Int)(f:List Int)(c p q d r:Int)(s:Bool)(a:List Int)(g h i j k:Int)(l:Bool)(m n:List Int)(t u v e w:Int)(y:Bool)(z A B:List Int)(nx F:b94 ρ):Option ρ:=br (decide (b<o)) (br (decide (0≤b)) (br (decide (b<(↑B.length:Int))) (br (decide (e<0)) none (qm g h i j k l [] m n (bits BinOp.or Ab (Ab.wrap (Ab.wrap b*2^min e.toNat 64)) (Ab.wrap (B.getD b.toNat 0))) a fun C=>br (decide ((f.length+C.length)*1≤140737488355328)) (br (decide (0≤Aa.wrap (c*Aa.wrap (d+1)))) (br (decide (Aa.wrap (c*Aa.wrap (d+1))≤(↑a.length:Int))) (br (decide ((↑a.length:Int)≤(↑a.length:Int))) (nx o (Aa.wrap (b+1)) (f++C) c p q d r s (Ad (Aa.wrap (c*Aa.wrap (d+1))).toNat (Ac (↑a.length:Int).toNat a)) g h i j k l m n t u v e w y z A B) none) none) none) none)) none) none) (F o b f c p q d r s a g h i j k l m n t u v e w y z A B)
abbrev b0v:=Int×Int×(List Int)×Int×Int×Int×Int×Int×Bool×(List Int)×Int×Int×Int×Int×Int×Bool×(List Int)×(List Int)×Int×Int×Int×Int×Int×Bool×(List Int)×(List Int)×(List Int)
abbrev b9r:=b0v
def cbr{ρ:Type}(f:b0v→Option ρ):b94 ρ:=fun A B a b c d e g h i j k l m n o p q r s t u v w y z C=>f (A,B,a,b,c,d,e,g,h,i,j,k,l,m,n,o,p,q,r,s,t,u,v,w,y,z,C)
def bzb{ρ:Type}:aej b0v b9r ρ:=fun (z,A,a,b,c,d,e,f,g,h,i,j,k,l,m,n,o,p,q,r,s,t,u,v,w,y,B) next ex=>aev z A a b c d e f g h i j k l m n o p q r s t u v w y B (cbr next) (cbr ex)
def ccb{ρ:Type}:=shut (lp (bzb (ρ:=ρ)))
theorem cct{ρ:Type}:ccb (ρ:=ρ)=lp bzb:=cu _
def b3g{ρ:Type}(f:aei b0v b9r ρ)(A B:Int)(a:List Int)(b c d e g:Int)(h:Bool)(i:List Int)(j k l m n:Int)(o:Bool)(p q:List Int)(r s t u v:Int)(w:Bool)(y z C:List Int)(F:b94 ρ):Option ρ:=f (A,B,a,b,c,d,e,g,h,i,j,k,l,m,n,o,p,q,r,s,t,u,v,w,y,z,C) (fun (A,B,a,b,c,d,e,g,h,i,j,k,l,m,n,o,p,q,r,s,t,u,v,w,y,z,C)=>F A B a b c d e g h i j k l m n o p q r s t u v w y z C)
def ai9{ρ:Type}:=b3g (lp (bzb (ρ:=ρ)))
def ajo{ρ:Type}:=b3g (ccb (ρ:=ρ))
theorem aog{ρ:Type}:ajo (ρ:=ρ)=ai9:=congrArg b3g cct
def afg{ρ:Type}(b e f c d:Int)(a:Bool)(h i g j:List Int)(k:(List Int)→Option ρ):Option ρ:=pz b e f c d a fun v w=>jk b e f c d a fun y=>br (!y) (k []) (br ((↑g.length:Int) !=b) (k []) (br ((↑i.length:Int) !=w) (k []) (br ((↑h.length:Int) !=v) (k []) (nu i c d fun l=>ajo (↑l.length:Int) 0 [] b e f c d a h b e f c d a g j b e f c d a g j l fun W Z z q7 q8 q9 A B C F m n o p q r s t G H I J M N O Q U=>o8 m n o p q r [] s t z fun u=>k u))))
def wz{ρ:Type}:=shut (afg (ρ:=ρ))
theorem amh{ρ:Type}(b:Int)(c:Int)(d:Int)(e:Int)(f:Int)(a:Bool)(g:List Int)(h:List Int)(i:List Int)(j:List Int)(k:(List Int)→Option ρ):wz b c d e f a g h i j k=afg b c d e f a g h i j k:=by unfold wz;rw[cu]

def ako{ρ:Type}(c:List Int)(a b:Int)(k:(List Int)→Option ρ):Option ρ:=gy [0,0,0,0,0,0,0,0,0,0,0,0,0,0,0,0,0,0,0,0,0,0,0,0,0,0,0,0,0,0,0,0] 1 a fun d=>gy d 2 3 fun e=>gy e 3 b fun f=>k f
def aae{ρ:Type}:=shut (ako (ρ:=ρ))
theorem av7{ρ:Type}(a:List Int)(b:Int)(c:Int)(k:(List Int)→Option ρ):aae a b c k=ako a b c k:=by unfold aae;rw[cu]

abbrev b8x(ρ:Type):=(List (List Int))→Int→Int→Int→Int→Int→Int→Int→Bool→Option ρ
def ao1{ρ:Type}(h:List (List Int))(i g a b c d e:Int)(f:Bool)(nx j:b8x ρ)(k:Bool→Int→Int→Int→Int→Int→Bool→Option ρ):Option ρ:=br (decide (g<i)) (br (decide (0≤g)) (br (decide (g<(↑h.length:Int))) (br ((↑(h.getD g.toNat []).length:Int) !=a) (k false a b c d e f) (nx h i (Aa.wrap (g+1)) a b c d e f)) none) none) (j h i g a b c d e f)
abbrev b4w:=(List (List Int))×Int×Int×Int×Int×Int×Int×Int×Bool
abbrev caf:=((List (List Int))×Int×Int×Int×Int×Int×Int×Int×Bool) ⊕ (Bool×Int×Int×Int×Int×Int×Bool)
def cda{ρ:Type}(f:b4w→Option ρ):b8x ρ:=fun h i j a b c d e g=>f (h,i,j,a,b,c,d,e,g)
def b0m{ρ:Type}:aej b4w caf ρ:=fun (g,h,i,a,b,c,d,e,f) next ex=>ao1 g h i a b c d e f (cda next) (fun g h i a b c d e f=>ex (.inl (g,h,i,a,b,c,d,e,f))) (fun j a b c d e f=>ex (.inr (j,a,b,c,d,e,f)))
def cca{ρ:Type}:=shut (lp (b0m (ρ:=ρ)))
theorem cei{ρ:Type}:cca (ρ:=ρ)=lp b0m:=cu _
def b27{ρ:Type}(f:aei b4w caf ρ)(h:List (List Int))(i j a b c d e:Int)(g:Bool)(k:b8x ρ)(l:Bool→Int→Int→Int→Int→Int→Bool→Option ρ):Option ρ:=f (h,i,j,a,b,c,d,e,g) (Sum.elim (fun (h,i,j,a,b,c,d,e,g)=>k h i j a b c d e g) (fun x=>l x.1 x.2.1 x.2.2.1 x.2.2.2.1 x.2.2.2.2.1 x.2.2.2.2.2.1 x.2.2.2.2.2.2))
def aw1{ρ:Type}:=b27 (lp (b0m (ρ:=ρ)))
def awl{ρ:Type}:=b27 (cca (ρ:=ρ))
theorem ba5{ρ:Type}:awl (ρ:=ρ)=aw1:=congrArg b27 cei
def anc{ρ:Type}(b c d e f:Int)(a:Bool)(g:List (List Int))(k:Bool→Option ρ):Option ρ:=awl g (↑g.length:Int) 0 b c d e f a (fun w y z i j l m n o=>jk i j l m n o fun p=>k p) fun h q r s t u v=>k h
def vo{ρ:Type}:=shut (anc (ρ:=ρ))
theorem axh{ρ:Type}(b:Int)(c:Int)(d:Int)(e:Int)(f:Int)(a:Bool)(g:List (List Int))(k:Bool→Option ρ):vo b c d e f a g k=anc b c d e f a g k:=by unfold vo;rw[cu]

def ajr{ρ:Type}(c b d e f:Int)(a:Bool)(i j:Int)(k:Bool→Option ρ):Option ρ:=jl c b d e f a fun g=>br (decide (Aa.wrap (b-g)<0)) none (br (i.fdiv (2^min (Aa.wrap (b-g)).toNat 64)==0) (jl c b d e f a fun h=>br (decide (h<0)) none (k (j.fdiv (2^min h.toNat 64)==0))) (k false))
def uf{ρ:Type}:=shut (ajr (ρ:=ρ))
theorem aq4{ρ:Type}(b:Int)(c:Int)(d:Int)(e:Int)(f:Int)(a:Bool)(g:Int)(h:Int)(k:Bool→Option ρ):uf b c d e f a g h k=ajr b c d e f a g h k:=by unfold uf;rw[cu]

def ac8{ρ:Type}(a r s t u:Int)(n:Bool)(v:Nat)(e:Int)(b:List Int)(o:Int)(m:Bool)(p f:Int)(c g:List Int)(h q i:Int)(d j:List Int)(l:Int)(k:Int→Option ρ):Option ρ:=k (Aa.wrap (Aa.wrap (2*a)+3))
def ou{ρ:Type}:=shut (ac8 (ρ:=ρ))
theorem aij{ρ:Type}(q:Int)(r:Int)(s:Int)(t:Int)(u:Int)(m:Bool)(v:Nat)(d:Int)(a:List Int)(n:Int)(l:Bool)(o:Int)(e:Int)(b:List Int)(f:List Int)(g:Int)(p:Int)(h:Int)(c:List Int)(i:List Int)(j:Int)(k:Int→Option ρ):ou q r s t u m v d a n l o e b f g p h c i j k=ac8 q r s t u m v d a n l o e b f g p h c i j k:=by unfold ou;rw[cu]

abbrev b9b(ρ:Type):=Int→Int→Int→(List Int)→Option ρ
def alk{ρ:Type}(d b a:Int)(c:List Int)(nx e:b9b ρ):Option ρ:=br (decide (a<b)) (br (decide (0≤a)) (br (decide (a<(↑c.length:Int))) (nx (Ae.wrap (d-c.getD a.toNat 0)) b (Aa.wrap (a+1)) c) none) none) (e d b a c)
abbrev bzv:=Int×Int×Int×(List Int)
abbrev cb1:=bzv
def cax{ρ:Type}(f:bzv→Option ρ):b9b ρ:=fun c a b d=>f (c,a,b,d)
def b2c{ρ:Type}:aej bzv cb1 ρ:=fun (c,a,b,d) next ex=>alk c a b d (cax next) (cax ex)
def b8w{ρ:Type}:=shut (lp (b2c (ρ:=ρ)))
theorem cdo{ρ:Type}:b8w (ρ:=ρ)=lp b2c:=cu _
def b3f{ρ:Type}(f:aei bzv cb1 ρ)(c a b:Int)(d:List Int)(e:b9b ρ):Option ρ:=f (c,a,b,d) (fun (c,a,b,d)=>e c a b d)
def aqp{ρ:Type}:=b3f (lp (b2c (ρ:=ρ)))
def acd{ρ:Type}:=b3f (b8w (ρ:=ρ))
theorem avr{ρ:Type}:acd (ρ:=ρ)=aqp:=congrArg b3f cdo
def aj3{ρ:Type}(a:Int)(c:List Int)(k:(List Int)→Option ρ):Option ρ:=br (a !=16) (br (a !=24) (br (a !=32) (k []) (br ((↑c.length:Int) !=a) (k []) (nu c 4 (Aa.wrap (2*a)) fun h=>acd (Ae.wrap (Aa.wrap (15*(↑h.length:Int)))) (↑h.length:Int) 0 h fun d o p j=>br (decide ((j.length+([bits BinOp.and Ae (d.fdiv ((2:Int)^4)) (15:Int),bits BinOp.and Ae d (15:Int)].length.add 0).succ)*4≤140737488355328)) (k (j++[d.fdiv (2^8),bits BinOp.and Ae (d.fdiv (2^4)) 15,bits BinOp.and Ae d 15])) none))) (br ((↑c.length:Int) !=a) (k []) (nu c 4 (Aa.wrap (2*a)) fun i=>acd (Ae.wrap (Aa.wrap (15*(↑i.length:Int)))) (↑i.length:Int) 0 i fun e q r l=>br (decide ((l.length+([bits BinOp.and Ae (e.fdiv ((2:Int)^4)) (15:Int),bits BinOp.and Ae e (15:Int)].length.add 0).succ)*4≤140737488355328)) (k (l++[e.fdiv (2^8),bits BinOp.and Ae (e.fdiv (2^4)) 15,bits BinOp.and Ae e 15])) none))) (br ((↑c.length:Int) !=a) (k []) (nu c 4 (Aa.wrap (2*a)) fun f=>acd (Ae.wrap (Aa.wrap (15*(↑f.length:Int)))) (↑f.length:Int) 0 f fun b m n g=>br (decide ((g.length+([bits BinOp.and Ae (b.fdiv ((2:Int)^4)) (15:Int),bits BinOp.and Ae b (15:Int)].length.add 0).succ)*4≤140737488355328)) (k (g++[b.fdiv (2^8),bits BinOp.and Ae (b.fdiv (2^4)) 15,bits BinOp.and Ae b 15])) none))
def aaf{ρ:Type}:=shut (aj3 (ρ:=ρ))
theorem ard{ρ:Type}(a:Int)(b:List Int)(k:(List Int)→Option ρ):aaf a b k=aj3 a b k:=by unfold aaf;rw[cu]

abbrev ccl(ρ:Type):=(List Int)→Int→Int→Int→Int→Int→Int→Int→Bool→Nat→Int→(List Int)→Int→Bool→Int→Int→(List Int)→(List Int)→Int→Int→Int→(List Int)→(List Int)→Int→(List Int)→Option ρ
def aeh{ρ:Type}(z:List Int)(y q r s t u v:Int)(w:Bool)(o:Nat)(a:Int)(b:List Int)(c:Int)(d:Bool)(e f:Int)(g h:List Int)(i j k:Int)(l m:List Int)(n:Int)(p:List Int)(nx B:ccl ρ):Option ρ:=br (decide (q<y)) (gy p 5 (Ab.wrap q) fun A=>br (decide (o=1)) (jg A z a b c d e fun C=>nx C y (Ae.wrap (q+1)) r s t u v w o a b c d e f g h i j k l m n p) (br (decide (o=2)) (jf A z f g h i j k l m n fun F=>nx F y (Ae.wrap (q+1)) r s t u v w o a b c d e f g h i j k l m n p) none)) (B z y q r s t u v w o a b c d e f g h i j k l m n p)
abbrev byn:=(List Int)×Int×Int×Int×Int×Int×Int×Int×Bool×Nat×Int×(List Int)×Int×Bool×Int×Int×(List Int)×(List Int)×Int×Int×Int×(List Int)×(List Int)×Int×(List Int)
abbrev b6h:=byn
def b86{ρ:Type}(f:byn→Option ρ):ccl ρ:=fun z A y p q r s t u v a b c d e g h i j k l m n o w=>f (z,A,y,p,q,r,s,t,u,v,a,b,c,d,e,g,h,i,j,k,l,m,n,o,w)
def b0t{ρ:Type}:aej byn b6h ρ:=fun (y,z,w,o,p,q,r,s,t,u,a,b,c,d,e,f,g,h,i,j,k,l,m,n,v) next ex=>aeh y z w o p q r s t u a b c d e f g h i j k l m n v (b86 next) (b86 ex)
def cbs{ρ:Type}:=shut (lp (b0t (ρ:=ρ)))
theorem ces{ρ:Type}:cbs (ρ:=ρ)=lp b0t:=cu _
def b4n{ρ:Type}(f:aei byn b6h ρ)(z:List Int)(A y p q r s t:Int)(u:Bool)(v:Nat)(a:Int)(b:List Int)(c:Int)(d:Bool)(e g:Int)(h i:List Int)(j k l:Int)(m n:List Int)(o:Int)(w:List Int)(B:ccl ρ):Option ρ:=f (z,A,y,p,q,r,s,t,u,v,a,b,c,d,e,g,h,i,j,k,l,m,n,o,w) (fun (z,A,y,p,q,r,s,t,u,v,a,b,c,d,e,g,h,i,j,k,l,m,n,o,w)=>B z A y p q r s t u v a b c d e g h i j k l m n o w)
def aio{ρ:Type}:=b4n (lp (b0t (ρ:=ρ)))
def aie{ρ:Type}:=b4n (cbs (ρ:=ρ))
theorem am6{ρ:Type}:aie (ρ:=ρ)=aio:=congrArg b4n ces
def adw{ρ:Type}(q r s t u:Int)(m:Bool)(v:Nat)(d:Int)(a:List Int)(n:Int)(l:Bool)(o e:Int)(b f:List Int)(g p h:Int)(c i:List Int)(j:Int)(w y:List Int)(z A:Int)(k:(List Int)→Option ρ):Option ρ:=aie y A z q r s t u m v d a n l o e b f g p h c i j w fun B q1 q2 q3 q4 q5 q6 q7 q8 q9 C F G H I J M N O Q U W Z aa ab=>k B
def oq{ρ:Type}:=shut (adw (ρ:=ρ))
theorem aiq{ρ:Type}(q:Int)(r:Int)(s:Int)(t:Int)(u:Int)(m:Bool)(v:Nat)(d:Int)(a:List Int)(n:Int)(l:Bool)(o:Int)(e:Int)(b:List Int)(f:List Int)(g:Int)(p:Int)(h:Int)(c:List Int)(i:List Int)(j:Int)(w:List Int)(y:List Int)(z:Int)(A:Int)(k:(List Int)→Option ρ):oq q r s t u m v d a n l o e b f g p h c i j w y z A k=adw q r s t u m v d a n l o e b f g p h c i j w y z A k:=by unfold oq;rw[cu]

def aj1{ρ:Type}(b:List Int)(a:Int)(k:Int→Option ρ):Option ρ:=br (decide (0≤Aa.wrap (8+Aa.wrap (4*a)))) (br (decide (Aa.wrap (8+Aa.wrap (4*a))≤Aa.wrap (12+Aa.wrap (4*a)))) (br (decide (Aa.wrap (12+Aa.wrap (4*a))≤(↑32:Int))) (uz (Ac (Aa.wrap (12+Aa.wrap (4*a))-Aa.wrap (8+Aa.wrap (4*a))).toNat (Ad (Aa.wrap (8+Aa.wrap (4*a))).toNat b)) fun c=>k c) none) none) none
def wh{ρ:Type}:=shut (aj1 (ρ:=ρ))
theorem aq0{ρ:Type}(a:List Int)(b:Int)(k:Int→Option ρ):wh a b k=aj1 a b k:=by unfold wh;rw[cu]

def ae0{ρ:Type}(r s t u v:Int)(q:Bool)(n:Nat)(d:Int)(a:List Int)(m:Int)(l:Bool)(o e:Int)(b f:List Int)(g p h:Int)(c i:List Int)(j:Int)(w y:List Int)(k:(List Int)→Option ρ):Option ρ:=gy y 2 1 fun A=>wh y 3 fun B=>gy A 3 B fun z=>br (decide (n=1)) (jg z w d a m l o fun C=>k C) (br (decide (n=2)) (jf z w e b f g p h c i j fun F=>k F) none)
def qp{ρ:Type}:=shut (ae0 (ρ:=ρ))
theorem akm{ρ:Type}(q:Int)(r:Int)(s:Int)(t:Int)(u:Int)(m:Bool)(v:Nat)(d:Int)(a:List Int)(n:Int)(l:Bool)(o:Int)(e:Int)(b:List Int)(f:List Int)(g:Int)(p:Int)(h:Int)(c:List Int)(i:List Int)(j:Int)(w:List Int)(y:List Int)(k:(List Int)→Option ρ):qp q r s t u m v d a n l o e b f g p h c i j w y k=ae0 q r s t u m v d a n l o e b f g p h c i j w y k:=by unfold qp;rw[cu]

abbrev b9d(ρ:Type):=(List Int)→Int→Int→(List Int)→Int→Int→Int→Int→Int→Bool→(List Int)→Int→Int→Int→Int→Int→Bool→Nat→Int→(List Int)→Int→Bool→Int→Int→(List Int)→(List Int)→Int→Int→Int→(List Int)→(List Int)→Int→(List Int)→Option ρ
def ag6{ρ:Type}(q:List Int)(A p:Int)(J:List Int)(a B C F G:Int)(H:Bool)(r:List Int)(s t u v w:Int)(y:Bool)(z:Nat)(b:Int)(c:List Int)(d:Int)(e:Bool)(f g:Int)(h i:List Int)(j k l:Int)(m n:List Int)(o:Int)(I:List Int)(nx N:b9d ρ):Option ρ:=br (decide (p<A)) (br (decide (0≤p)) (br (decide (p<(↑I.length:Int))) (gy r 4 (Ab.wrap p) fun O=>br (decide (0≤a)) (br (decide (a≤(↑q.length:Int))) (oq s t u v w y z b c d e f g h i j k l m n o O (Ad 0 (Ac a.toNat q)) (I.getD p.toNat 0) 15 fun M=>br (decide ((J.length+M.length)*1≤140737488355328)) (br (decide (0≤a)) (br (decide (a≤(↑q.length:Int))) (br (decide ((↑q.length:Int)≤(↑q.length:Int))) (nx (Ad a.toNat (Ac (↑q.length:Int).toNat q)) A (Aa.wrap (p+1)) (J++M) a B C F G H r s t u v w y z b c d e f g h i j k l m n o I) none) none) none) none) none) none) none) none) (N q A p J a B C F G H r s t u v w y z b c d e f g h i j k l m n o I)
abbrev b2f:=(List Int)×Int×Int×(List Int)×Int×Int×Int×Int×Int×Bool×(List Int)×Int×Int×Int×Int×Int×Bool×Nat×Int×(List Int)×Int×Bool×Int×Int×(List Int)×(List Int)×Int×Int×Int×(List Int)×(List Int)×Int×(List Int)
abbrev b5z:=b2f
def cbh{ρ:Type}(f:b2f→Option ρ):b9d ρ:=fun I G H J p q r s t u v w y z A B C F a b c d e g h i j k l m n o M=>f (I,G,H,J,p,q,r,s,t,u,v,w,y,z,A,B,C,F,a,b,c,d,e,g,h,i,j,k,l,m,n,o,M)
def b08{ρ:Type}:aej b2f b5z ρ:=fun (H,F,G,I,o,p,q,r,s,t,u,v,w,y,z,A,B,C,a,b,c,d,e,f,g,h,i,j,k,l,m,n,J) next ex=>ag6 H F G I o p q r s t u v w y z A B C a b c d e f g h i j k l m n J (cbh next) (cbh ex)
def b98{ρ:Type}:=shut (lp (b08 (ρ:=ρ)))
theorem ced{ρ:Type}:b98 (ρ:=ρ)=lp b08:=cu _
def b4x{ρ:Type}(f:aei b2f b5z ρ)(I:List Int)(G H:Int)(J:List Int)(p q r s t:Int)(u:Bool)(v:List Int)(w y z A B:Int)(C:Bool)(F:Nat)(a:Int)(b:List Int)(c:Int)(d:Bool)(e g:Int)(h i:List Int)(j k l:Int)(m n:List Int)(o:Int)(M:List Int)(N:b9d ρ):Option ρ:=f (I,G,H,J,p,q,r,s,t,u,v,w,y,z,A,B,C,F,a,b,c,d,e,g,h,i,j,k,l,m,n,o,M) (fun (I,G,H,J,p,q,r,s,t,u,v,w,y,z,A,B,C,F,a,b,c,d,e,g,h,i,j,k,l,m,n,o,M)=>N I G H J p q r s t u v w y z A B C F a b c d e g h i j k l m n o M)
def aly{ρ:Type}:=b4x (lp (b08 (ρ:=ρ)))
def als{ρ:Type}:=b4x (b98 (ρ:=ρ))
theorem aqh{ρ:Type}:als (ρ:=ρ)=aly:=congrArg b4x ced
def af4{ρ:Type}(a c d e f:Int)(b:Bool)(t u a3 a4:List Int)(k:(List Int)→Option ρ):Option ρ:=y7 a c d e f b a3 fun v w y z A B C F G H g h i j l m n o p q r I=>br (!I) (k []) (br ((↑u.length:Int) !=a) (k []) (ou v w y z A B C F G H g h i j l m n o p q r fun J=>br ((↑t.length:Int) !=Aa.wrap (a*J)) (k []) (aaf a u fun s=>als t (↑s.length:Int) 0 [] a c d e f b a4 v w y z A B C F G H g h i j l m n o p q r s fun ar au av M aw ax ay az a0 a5 N O Q U W Z aa ab ac ad ae af ag ah ai aj ak al am an ao ap a6=>qp O Q U W Z aa ab ac ad ae af ag ah ai aj ak al am an ao ap M N fun aq=>k aq)))
def vk{ρ:Type}:=shut (af4 (ρ:=ρ))
theorem alr{ρ:Type}(b:Int)(c:Int)(d:Int)(e:Int)(f:Int)(a:Bool)(g:List Int)(h:List Int)(i:List Int)(j:List Int)(k:(List Int)→Option ρ):vk b c d e f a g h i j k=af4 b c d e f a g h i j k:=by unfold vk;rw[cu]

def aft{ρ:Type}(d e f g h:Int)(a:Bool)(c i b:List Int)(j:Int)(k:(List Int)→Option ρ):Option ρ:=gy b 2 0 fun l=>gy l 3 j fun m=>k m
def uh{ρ:Type}:=shut (aft (ρ:=ρ))
theorem amj{ρ:Type}(c:Int)(d:Int)(e:Int)(f:Int)(g:Int)(a:Bool)(b:List Int)(h:List Int)(i:List Int)(j:Int)(k:(List Int)→Option ρ):uh c d e f g a b h i j k=aft c d e f g a b h i j k:=by unfold uh;rw[cu]

def afd{ρ:Type}(b c d e f:Int)(a:Bool)(i g h:List Int)(j l:Int)(m n:List Int)(k:(List Int)→Option ρ):Option ρ:=gy h 2 2 fun o=>gy o 4 (Ab.wrap j) fun p=>gy p 5 l fun q=>jc [m,n] fun r=>zy b c d e f a g q r fun s=>k s
def qx{ρ:Type}:=shut (afd (ρ:=ρ))
theorem alp{ρ:Type}(c:Int)(d:Int)(e:Int)(f:Int)(g:Int)(a:Bool)(b:List Int)(h:List Int)(i:List Int)(j:Int)(l:Int)(m:List Int)(n:List Int)(k:(List Int)→Option ρ):qx c d e f g a b h i j l m n k=afd c d e f g a b h i j l m n k:=by unfold qx;rw[cu]

abbrev cah(ρ:Type):=Int→(List Int)→(List Int)→Int→Int→Int→Int→Int→Int→Int→Bool→Int→Int→Int→Int→Int→Bool→(List Int)→(List Int)→Option ρ
def ag3{ρ:Type}(r:Int)(s b:List Int)(q c a l m n o:Int)(p:Bool)(d e f g h:Int)(i:Bool)(j k:List Int)(nx t:cah ρ):Option ρ:=br (decide (c<q)) (br (decide ((0:Int)≤a)) (br (decide (a≤(↑b.length:Int))) (br (decide (c<(0:Int))) none (br (bits BinOp.and Ab (r.fdiv ((2:Int)^min c.toNat 64)) (1:Int)==(1:Int)) (br (decide (Aa.wrap (c+(1:Int))<(0:Int))) none (qx d e f g h i [] j k (Aa.wrap (c+(1:Int))) (r.fdiv ((2:Int)^min (Aa.wrap (c+(1:Int))).toNat 64)) (Ad 0 (Ac a.toNat b)) s fun u=>br (decide ((0:Int)≤a)) (br (decide (a≤(↑b.length:Int))) (br (decide ((↑b.length:Int)≤(↑b.length:Int))) (nx r u (Ad a.toNat (Ac (↑b.length:Int).toNat b)) q (Aa.wrap (c+(1:Int))) a l m n o p d e f g h i j k) none) none) none)) (br (decide (Aa.wrap (c+(1:Int))<(0:Int))) none (qx d e f g h i [] j k (Aa.wrap (c+(1:Int))) (r.fdiv ((2:Int)^min (Aa.wrap (c+(1:Int))).toNat 64)) s (Ad 0 (Ac a.toNat b)) fun v=>br (decide ((0:Int)≤a)) (br (decide (a≤(↑b.length:Int))) (br (decide ((↑b.length:Int)≤(↑b.length:Int))) (nx r v (Ad a.toNat (Ac (↑b.length:Int).toNat b)) q (Aa.wrap (c+(1:Int))) a l m n o p d e f g h i j k) none) none) none)))) none) none) (t r s b q c a l m n o p d e f g h i j k)
abbrev byf:=Int×(List Int)×(List Int)×Int×Int×Int×Int×Int×Int×Int×Bool×Int×Int×Int×Int×Int×Bool×(List Int)×(List Int)
abbrev b6n:=byf
def b40{ρ:Type}(f:byf→Option ρ):cah ρ:=fun t p q r s a b c d e g h i j k l m n o=>f (t,p,q,r,s,a,b,c,d,e,g,h,i,j,k,l,m,n,o)
def bxs{ρ:Type}:aej byf b6n ρ:=fun (s,o,p,q,r,a,b,c,d,e,f,g,h,i,j,k,l,m,n) next ex=>ag3 s o p q r a b c d e f g h i j k l m n (b40 next) (b40 ex)
def b59{ρ:Type}:=shut (lp (bxs (ρ:=ρ)))
theorem cd8{ρ:Type}:b59 (ρ:=ρ)=lp bxs:=cu _
def b39{ρ:Type}(f:aei byf b6n ρ)(t:Int)(p q:List Int)(r s a b c d e:Int)(g:Bool)(h i j k l:Int)(m:Bool)(n o:List Int)(u:cah ρ):Option ρ:=f (t,p,q,r,s,a,b,c,d,e,g,h,i,j,k,l,m,n,o) (fun (t,p,q,r,s,a,b,c,d,e,g,h,i,j,k,l,m,n,o)=>u t p q r s a b c d e g h i j k l m n o)
def aml{ρ:Type}:=b39 (lp (bxs (ρ:=ρ)))
def al4{ρ:Type}:=b39 (b59 (ρ:=ρ))
theorem aqn{ρ:Type}:al4 (ρ:=ρ)=aml:=congrArg b39 cd8
def afz{ρ:Type}(b c d e f:Int)(a:Bool)(g l i m:List Int)(j:Int)(k:(List Int)→Option ρ):Option ρ:=vo b c d e f a [i,l] fun o=>br (!o) (k []) (oo b c d e f a fun p=>br ((↑g.length:Int) !=p) (k []) (jl b c d e f a fun n=>br (decide (n<0)) none (br (j.fdiv (2^min n.toNat 64) !=0) (k []) (jl b c d e f a fun h=>br (decide (0≤Aa.wrap ((↑g.length:Int)-Aa.wrap (b*h)))) (br (decide (Aa.wrap ((↑g.length:Int)-Aa.wrap (b*h))≤(↑g.length:Int))) (uh b c d e f a [] i m j fun q=>vk b c d e f a (Ad 0 (Ac (Aa.wrap ((↑g.length:Int)-Aa.wrap (b*h))).toNat g)) l i q fun r=>br (decide (0≤Aa.wrap ((↑g.length:Int)-Aa.wrap (b*h)))) (br (decide (Aa.wrap ((↑g.length:Int)-Aa.wrap (b*h))≤(↑g.length:Int))) (br (decide ((↑g.length:Int)≤(↑g.length:Int))) (jl b c d e f a fun s=>al4 j r (Ad (Aa.wrap ((↑g.length:Int)-Aa.wrap (b*h))).toNat (Ac (↑g.length:Int).toNat g)) s 0 b c d e f a b c d e f a i m fun Q t U u v w y z A B C F G H I J M N O=>k t) none) none) none) none) none))))
def lg{ρ:Type}:=shut (afz (ρ:=ρ))
theorem ame{ρ:Type}(b:Int)(c:Int)(d:Int)(e:Int)(f:Int)(a:Bool)(g:List Int)(h:List Int)(i:List Int)(j:List Int)(l:Int)(k:(List Int)→Option ρ):lg b c d e f a g h i j l k=afz b c d e f a g h i j l k:=by unfold lg;rw[cu]

abbrev b9i(ρ:Type):=(List Int)→(List Int)→Int→Int→Int→Option ρ
def ap5{ρ:Type}(c d:List Int)(e b a:Int)(nx f:b9i ρ):Option ρ:=br (decide (a<b)) (br (decide (0≤a)) (br (decide (a<(↑c.length:Int))) (br (decide (0≤a)) (br (decide (a<(↑d.length:Int))) (nx c d (bits BinOp.or Ag e (bits BinOp.xor Ag (c.getD a.toNat 0) (d.getD a.toNat 0))) b (Aa.wrap (a+1))) none) none) none) none) (f c d e b a)
abbrev b1e:=(List Int)×(List Int)×Int×Int×Int
abbrev b78:=b1e
def b49{ρ:Type}(f:b1e→Option ρ):b9i ρ:=fun c d e a b=>f (c,d,e,a,b)
def b2r{ρ:Type}:aej b1e b78 ρ:=fun (c,d,e,a,b) next ex=>ap5 c d e a b (b49 next) (b49 ex)
def b5h{ρ:Type}:=shut (lp (b2r (ρ:=ρ)))
theorem cd0{ρ:Type}:b5h (ρ:=ρ)=lp b2r:=cu _
def b4u{ρ:Type}(f:aei b1e b78 ρ)(c d:List Int)(e a b:Int)(g:b9i ρ):Option ρ:=f (c,d,e,a,b) (fun (c,d,e,a,b)=>g c d e a b)
def aw8{ρ:Type}:=b4u (lp (b2r (ρ:=ρ)))
def aw5{ρ:Type}:=b4u (b5h (ρ:=ρ))
theorem azi{ρ:Type}:aw5 (ρ:=ρ)=aw8:=congrArg b4u cd0
def amv{ρ:Type}(a b:List Int)(k:Bool→Option ρ):Option ρ:=br ((↑a.length:Int) !=(↑b.length:Int)) (k false) (aw5 a b 0 (↑a.length:Int) 0 fun d e c f g=>k (c==0))
def zf{ρ:Type}:=shut (amv (ρ:=ρ))
theorem awt{ρ:Type}(a:List Int)(b:List Int)(k:Bool→Option ρ):zf a b k=amv a b k:=by unfold zf;rw[cu]

abbrev b96(ρ:Type):=(List Int)→Int→Int→Int→Int→Int→Int→Int→Bool→(List Int)→(List Int)→(List Int)→Int→Int→Int→Int→Int→Bool→Int→Int→Option ρ
def ah2{ρ:Type}(p:List Int)(t s b c d e f:Int)(g:Bool)(q a o:List Int)(h i j k l:Int)(m:Bool)(n r:Int)(nx z:b96 ρ):Option ρ:=br (decide (s<t)) (gy [0,0,0,0,0,0,0,0,0,0,0,0,0,0,0,0,0,0,0,0,0,0,0,0,0,0,0,0,0,0,0,0] 0 (Ab.wrap s) fun A=>gy A 1 n fun B=>oo b c d e f g fun u=>br (decide (0≤u)) (br (decide (u≤(↑a.length:Int))) (lg b c d e f g (Ad 0 (Ac u.toNat a)) q o B r fun C=>oo b c d e f g fun v=>br (decide (0≤v)) (br (decide (v≤(↑a.length:Int))) (br (decide ((↑a.length:Int)≤(↑a.length:Int))) (jl h i j k l m fun w=>br (decide (w<0)) none (jl h i j k l m fun y=>br (decide (y<0)) none (nx p t (Aa.wrap (s+1)) b c d e f g C (Ad v.toNat (Ac (↑a.length:Int).toNat a)) o h i j k l m (n.fdiv (2^min y.toNat 64)) (bits BinOp.and Ab n (Ab.wrap (Ab.wrap (1*2^min w.toNat 64)-1)))))) none) none) none) none) none) (z p t s b c d e f g q a o h i j k l m n r)
abbrev bzo:=(List Int)×Int×Int×Int×Int×Int×Int×Int×Bool×(List Int)×(List Int)×(List Int)×Int×Int×Int×Int×Int×Bool×Int×Int
abbrev b8c:=bzo
def cak{ρ:Type}(f:bzo→Option ρ):b96 ρ:=fun a t u b c d e g h i j k l m n o p q r s=>f (a,t,u,b,c,d,e,g,h,i,j,k,l,m,n,o,p,q,r,s)
def bzi{ρ:Type}:aej bzo b8c ρ:=fun (a,s,t,b,c,d,e,f,g,h,i,j,k,l,m,n,o,p,q,r) next ex=>ah2 a s t b c d e f g h i j k l m n o p q r (cak next) (cak ex)
def ccg{ρ:Type}:=shut (lp (bzi (ρ:=ρ)))
theorem cem{ρ:Type}:ccg (ρ:=ρ)=lp bzi:=cu _
def b3e{ρ:Type}(f:aei bzo b8c ρ)(a:List Int)(t u b c d e g:Int)(h:Bool)(i j k:List Int)(l m n o p:Int)(q:Bool)(r s:Int)(v:b96 ρ):Option ρ:=f (a,t,u,b,c,d,e,g,h,i,j,k,l,m,n,o,p,q,r,s) (fun (a,t,u,b,c,d,e,g,h,i,j,k,l,m,n,o,p,q,r,s)=>v a t u b c d e g h i j k l m n o p q r s)
def anu{ρ:Type}:=b3e (lp (bzi (ρ:=ρ)))
def an5{ρ:Type}:=b3e (ccg (ρ:=ρ))
theorem atb{ρ:Type}:an5 (ρ:=ρ)=anu:=congrArg b3e cem
def ajj{ρ:Type}(c d b e f:Int)(a:Bool)(h i j g:List Int)(l m:Int)(k:Bool→Option ρ):Option ρ:=vo c d b e f a [h,j,g] fun p=>br (!p) (k false) (oo c d b e f a fun q=>br ((↑i.length:Int) !=Aa.wrap (b*q)) (k false) (uf c d b e f a l m fun r=>br (!r) (k false) (an5 g b 0 c d b e f a h i j c d b e f a l m fun H I J M N O Q s t n u v w y z A B C F G=>zf n g fun o=>k o)))
def abf{ρ:Type}:=shut (ajj (ρ:=ρ))
theorem aqy{ρ:Type}(b:Int)(c:Int)(d:Int)(e:Int)(f:Int)(a:Bool)(g:List Int)(h:List Int)(i:List Int)(j:List Int)(l:Int)(m:Int)(k:Bool→Option ρ):abf b c d e f a g h i j l m k=ajj b c d e f a g h i j l m k:=by unfold abf;rw[cu]

def aky{ρ:Type}(a d e f g:Int)(b:Bool)(h a2 n c:List Int)(k:Int→Option ρ):Option ρ:=zx a d e f g b fun q0 q1 q2=>jk a d e f g b fun q3=>br (!q3) (k 9) (br ((↑h.length:Int) !=Aa.wrap (2*a)) (k 10) (br (decide ((↑n.length:Int)>255)) (k 2) (br ((↑c.length:Int) !=q2) (k 1) (pz a d e f g b fun i q5=>br (decide (0≤a)) (br (decide (a≤(↑h.length:Int))) (br (decide (0≤a)) (br (decide (a≤(↑h.length:Int))) (br (decide ((↑h.length:Int)≤(↑h.length:Int))) (br (decide (0≤a)) (br (decide (a≤(↑c.length:Int))) (br (decide (0≤a)) (br (decide (a≤(↑c.length:Int))) (br (decide ((↑c.length:Int)≤(↑c.length:Int))) (ahq a d e f g b fun q6 q7 q8 q9 o p q r s t u v w y z A B C F G H I J M N O Q U=>ahr a2 n fun W=>ze q6 q7 q8 q9 o p q r s t u v w y z A B C F G H I J M N O Q U (Ad 0 (Ac a.toNat c)) h W fun j l m=>br (decide (0≤i)) (br (decide (i≤(↑(Ad a.toNat (Ac (↑c.length:Int).toNat c)).length:Int))) (aae j l m fun Z=>wz a d e f g b (Ad 0 (Ac i.toNat (Ad a.toNat (Ac (↑c.length:Int).toNat c)))) j (Ad 0 (Ac a.toNat h)) Z fun aa=>br (decide (0≤i)) (br (decide (i≤(↑(Ad a.toNat (Ac (↑c.length:Int).toNat c)).length:Int))) (br (decide ((↑(Ad a.toNat (Ac (↑c.length:Int).toNat c)).length:Int)≤(↑(Ad a.toNat (Ac (↑c.length:Int).toNat c)).length:Int))) (abf a d e f g b aa (Ad i.toNat (Ac (↑(Ad a.toNat (Ac (↑c.length:Int).toNat c)).length:Int).toNat (Ad a.toNat (Ac (↑c.length:Int).toNat c)))) (Ad 0 (Ac a.toNat h)) (Ad a.toNat (Ac (↑h.length:Int).toNat h)) l m fun ab=>br (!ab) (k 11) (k 0)) none) none) none) none) none) none) none) none) none) none) none) none) none) none) none))))
def aeb{ρ:Type}:=shut (aky (ρ:=ρ))
theorem atp{ρ:Type}(b:Int)(c:Int)(d:Int)(e:Int)(f:Int)(a:Bool)(g:List Int)(h:List Int)(i:List Int)(j:List Int)(k:Int→Option ρ):aeb b c d e f a g h i j k=aky b c d e f a g h i j k:=by unfold aeb;rw[cu]

def ug{ρ:Type}(a:Int)(k:Int→Int→Int→Int→Int→Bool→Bool→Option ρ):Option ρ:=br (decide (a<(1:Int))) (k (0:Int) (0:Int) (0:Int) (0:Int) (0:Int) false false) (br (decide (a>(12:Int))) (k (0:Int) (0:Int) (0:Int) (0:Int) (0:Int) false false) (br (decide ((0:Int)≤Aa.wrap ((Aa.wrap (a-(1:Int))).tdiv (2:Int)))) (br (decide (Aa.wrap ((Aa.wrap (a-(1:Int))).tdiv (2:Int))<(↑6:Int))) (br (decide ((Aa.wrap ((Aa.wrap (a-(1:Int))).tdiv (2:Int))).toNat*5+5≤30)) (k ((Ac 5 (Ad ((Aa.wrap ((Aa.wrap (a-(1:Int))).tdiv (2:Int))).toNat*5) [(16:Int),(63:Int),(7:Int),(12:Int),(14:Int),(16:Int),(66:Int),(22:Int),(6:Int),(33:Int),(24:Int),(63:Int),(7:Int),(14:Int),(17:Int),(24:Int),(66:Int),(22:Int),(8:Int),(33:Int),(32:Int),(64:Int),(8:Int),(14:Int),(22:Int),(32:Int),(68:Int),(17:Int),(9:Int),(35:Int)])).getD 0 (0:Int)) ((Ac 5 (Ad ((Aa.wrap ((Aa.wrap (a-(1:Int))).tdiv (2:Int))).toNat*5) [(16:Int),(63:Int),(7:Int),(12:Int),(14:Int),(16:Int),(66:Int),(22:Int),(6:Int),(33:Int),(24:Int),(63:Int),(7:Int),(14:Int),(17:Int),(24:Int),(66:Int),(22:Int),(8:Int),(33:Int),(32:Int),(64:Int),(8:Int),(14:Int),(22:Int),(32:Int),(68:Int),(17:Int),(9:Int),(35:Int)])).getD 1 (0:Int)) ((Ac 5 (Ad ((Aa.wrap ((Aa.wrap (a-(1:Int))).tdiv (2:Int))).toNat*5) [(16:Int),(63:Int),(7:Int),(12:Int),(14:Int),(16:Int),(66:Int),(22:Int),(6:Int),(33:Int),(24:Int),(63:Int),(7:Int),(14:Int),(17:Int),(24:Int),(66:Int),(22:Int),(8:Int),(33:Int),(32:Int),(64:Int),(8:Int),(14:Int),(22:Int),(32:Int),(68:Int),(17:Int),(9:Int),(35:Int)])).getD 2 (0:Int)) ((Ac 5 (Ad ((Aa.wrap ((Aa.wrap (a-(1:Int))).tdiv (2:Int))).toNat*5) [(16:Int),(63:Int),(7:Int),(12:Int),(14:Int),(16:Int),(66:Int),(22:Int),(6:Int),(33:Int),(24:Int),(63:Int),(7:Int),(14:Int),(17:Int),(24:Int),(66:Int),(22:Int),(8:Int),(33:Int),(32:Int),(64:Int),(8:Int),(14:Int),(22:Int),(32:Int),(68:Int),(17:Int),(9:Int),(35:Int)])).getD 3 (0:Int)) ((Ac 5 (Ad ((Aa.wrap ((Aa.wrap (a-(1:Int))).tdiv (2:Int))).toNat*5) [(16:Int),(63:Int),(7:Int),(12:Int),(14:Int),(16:Int),(66:Int),(22:Int),(6:Int),(33:Int),(24:Int),(63:Int),(7:Int),(14:Int),(17:Int),(24:Int),(66:Int),(22:Int),(8:Int),(33:Int),(32:Int),(64:Int),(8:Int),(14:Int),(22:Int),(32:Int),(68:Int),(17:Int),(9:Int),(35:Int)])).getD 4 (0:Int)) (a.tmod (2:Int)==(0:Int)) true) none) none) none))
def ae2{ρ:Type}:=shut (ug (ρ:=ρ))
theorem aqc{ρ:Type}(a:Int)(k:Int→Int→Int→Int→Int→Bool→Bool→Option ρ):ae2 a k=ug a k:=by unfold ae2;rw[cu]

def am2{ρ:Type}(k:Bool→Option ρ):Option ρ:=ae2 3 fun a b c d e f h=>zx a b c d e f fun j l i=>br h (br (a==16&&(b==66&&(c==22&&(d==6&&(e==33&&(f==false&&true)))))) (br (i==17088) (aeb a b c d e f [] [] [] [] fun g=>k (g==10)) (k false)) (k false)) (k false)
def yw{ρ:Type}:=shut (am2 (ρ:=ρ))
theorem aw2{ρ:Type}  (k:Bool→Option ρ):yw  k=am2  k:=by unfold yw;rw[cu]

abbrev b97(ρ:Type):=(List (List Int))→Int→Int→Option ρ
def al7{ρ:Type}(b:List (List Int))(c a:Int)(nx d:b97 ρ)(e:Bool→Option ρ):Option ρ:=br (decide (a<c)) (br (decide (0≤a)) (br (decide (a<(↑b.length:Int))) (br (decide ((↑(b.getD a.toNat []).length:Int)>300)) (e false) (nx b c (Aa.wrap (a+1)))) none) none) (d b c a)
abbrev b26:=(List (List Int))×Int×Int
abbrev b6z:=((List (List Int))×Int×Int) ⊕ (Bool)
def cdw{ρ:Type}(f:b26→Option ρ):b97 ρ:=fun a b c=>f (a,b,c)
def bxw{ρ:Type}:aej b26 b6z ρ:=fun (a,b,c) next ex=>al7 a b c (cdw next) (fun a b c=>ex (.inl (a,b,c))) (fun d=>ex (.inr d))
def cau{ρ:Type}:=shut (lp (bxw (ρ:=ρ)))
theorem cdy{ρ:Type}:cau (ρ:=ρ)=lp bxw:=cu _
def b29{ρ:Type}(f:aei b26 b6z ρ)(a:List (List Int))(b c:Int)(d:b97 ρ)(e:Bool→Option ρ):Option ρ:=f (a,b,c) (Sum.elim (fun (a,b,c)=>d a b c) (fun x=>e x))
def bc4{ρ:Type}:=b29 (lp (bxw (ρ:=ρ)))
def bd9{ρ:Type}:=b29 (cau (ρ:=ρ))
theorem bee{ρ:Type}:bd9 (ρ:=ρ)=bc4:=congrArg b29 cdy
def asz{ρ:Type}(a:List (List Int))(k:Bool→Option ρ):Option ρ:=bd9 a (↑a.length:Int) 0 (fun c d e=>k true) fun b=>k b
def agk{ρ:Type}:=shut (asz (ρ:=ρ))
theorem bct{ρ:Type}(a:List (List Int))(k:Bool→Option ρ):agk a k=asz a k:=by unfold agk;rw[cu]

def aor{ρ:Type}(d e f a b:Int)(c:Bool)(k:Int→Int→Option ρ):Option ρ:=om d e f a b c fun g=>br (!g) (k 0 0) (k (Aa.wrap (Aa.wrap (d*b)*Aa.wrap (a+1))) (Aa.wrap ((Aa.wrap (Aa.wrap (b*a)+7)).tdiv 8)))
def af9{ρ:Type}:=shut (aor (ρ:=ρ))
theorem bab{ρ:Type}(b:Int)(c:Int)(d:Int)(e:Int)(f:Int)(a:Bool)(k:Int→Int→Option ρ):af9 b c d e f a k=aor b c d e f a k:=by unfold af9;rw[cu]

def apu{ρ:Type}(a d b e f:Int)(c:Bool)(k:Int→Option ρ):Option ρ:=om a d b e f c fun g=>br (!g) (k 0) (br (decide (b=0)) none (k (Aa.wrap (a*Aa.wrap (Aa.wrap (Aa.wrap (2*a)+3)+Aa.wrap (d.tdiv b))))))
def aga{ρ:Type}:=shut (apu (ρ:=ρ))
theorem az5{ρ:Type}(b:Int)(c:Int)(d:Int)(e:Int)(f:Int)(a:Bool)(k:Int→Option ρ):aga b c d e f a k=apu b c d e f a k:=by unfold aga;rw[cu]

def aiy{ρ:Type}(b d c e f:Int)(a:Bool)(k:Int→Int→Int→Option ρ):Option ρ:=om b d c e f a fun g=>br (!g) (k 0 0 0) (af9 b d c e f a fun h j=>aga b d c e f a fun i=>k (Aa.wrap (2*b)) (Aa.wrap (4*b)) (Aa.wrap (Aa.wrap (b+h)+Aa.wrap (c*i))))
def af8{ρ:Type}:=shut (aiy (ρ:=ρ))
theorem apw{ρ:Type}(b:Int)(c:Int)(d:Int)(e:Int)(f:Int)(a:Bool)(k:Int→Int→Int→Option ρ):af8 b c d e f a k=aiy b c d e f a k:=by unfold af8;rw[cu]

def adr{ρ:Type}(r s t u v:Int)(q:Bool)(n:Nat)(d:Int)(a:List Int)(m:Int)(l:Bool)(o e:Int)(b f:List Int)(g p h:Int)(c i:List Int)(j:Int)(w y:List Int)(A:Int)(k:(List Int)→Option ρ):Option ρ:=gy y 2 5 fun B=>wh y 3 fun C=>gy B 3 C fun F=>gy F 4 (Ab.wrap A) fun z=>br (decide (n=1)) (jg z w d a m l o fun G=>k G) (br (decide (n=2)) (jf z w e b f g p h c i j fun H=>k H) none)
def uq{ρ:Type}:=shut (adr (ρ:=ρ))
theorem aip{ρ:Type}(q:Int)(r:Int)(s:Int)(t:Int)(u:Int)(m:Bool)(v:Nat)(d:Int)(a:List Int)(n:Int)(l:Bool)(o:Int)(e:Int)(b:List Int)(f:List Int)(g:Int)(p:Int)(h:Int)(c:List Int)(i:List Int)(j:Int)(w:List Int)(y:List Int)(z:Int)(k:(List Int)→Option ρ):uq q r s t u m v d a n l o e b f g p h c i j w y z k=adr q r s t u m v d a n l o e b f g p h c i j w y z k:=by unfold uq;rw[cu]

abbrev cb4(ρ:Type):=(List Int)→Int→Int→(List Int)→(List Int)→Int→Int→Int→Int→Int→Bool→Nat→Int→(List Int)→Int→Bool→Int→Int→(List Int)→(List Int)→Int→Int→Int→(List Int)→(List Int)→Int→Option ρ
def alm{ρ:Type}(A:List Int)(y w:Int)(z o:List Int)(p q r s t:Int)(u:Bool)(v:Nat)(a:Int)(b:List Int)(c:Int)(d:Bool)(e f:Int)(g h:List Int)(i j k:Int)(l m:List Int)(n:Int)(nx C:cb4 ρ):Option ρ:=br (decide (w<y)) (gy o 4 (Ab.wrap w) fun F=>uq p q r s t u v a b c d e f g h i j k l m n A o w fun G=>oq p q r s t u v a b c d e f g h i j k l m n F G 0 15 fun B=>br (decide ((z.length+B.length)*1≤140737488355328)) (nx A y (Aa.wrap (w+1)) (z++B) o p q r s t u v a b c d e f g h i j k l m n) none) (C A y w z o p q r s t u v a b c d e f g h i j k l m n)
abbrev by9:=(List Int)×Int×Int×(List Int)×(List Int)×Int×Int×Int×Int×Int×Bool×Nat×Int×(List Int)×Int×Bool×Int×Int×(List Int)×(List Int)×Int×Int×Int×(List Int)×(List Int)×Int
abbrev car:=by9
def cch{ρ:Type}(f:by9→Option ρ):cb4 ρ:=fun B y z A p q r s t u v w a b c d e g h i j k l m n o=>f (B,y,z,A,p,q,r,s,t,u,v,w,a,b,c,d,e,g,h,i,j,k,l,m,n,o)
def b1o{ρ:Type}:aej by9 car ρ:=fun (A,w,y,z,o,p,q,r,s,t,u,v,a,b,c,d,e,f,g,h,i,j,k,l,m,n) next ex=>alm A w y z o p q r s t u v a b c d e f g h i j k l m n (cch next) (cch ex)
def b9k{ρ:Type}:=shut (lp (b1o (ρ:=ρ)))
theorem cc0{ρ:Type}:b9k (ρ:=ρ)=lp b1o:=cu _
def b3v{ρ:Type}(f:aei by9 car ρ)(B:List Int)(y z:Int)(A p:List Int)(q r s t u:Int)(v:Bool)(w:Nat)(a:Int)(b:List Int)(c:Int)(d:Bool)(e g:Int)(h i:List Int)(j k l:Int)(m n:List Int)(o:Int)(C:cb4 ρ):Option ρ:=f (B,y,z,A,p,q,r,s,t,u,v,w,a,b,c,d,e,g,h,i,j,k,l,m,n,o) (fun (B,y,z,A,p,q,r,s,t,u,v,w,a,b,c,d,e,g,h,i,j,k,l,m,n,o)=>C B y z A p q r s t u v w a b c d e g h i j k l m n o)
def aqo{ρ:Type}:=b3v (lp (b1o (ρ:=ρ)))
def aq3{ρ:Type}:=b3v (b9k (ρ:=ρ))
theorem ave{ρ:Type}:aq3 (ρ:=ρ)=aqo:=congrArg b3v cc0
def aji{ρ:Type}(b o p q r:Int)(a:Bool)(s a2 a3:List Int)(k:(List Int)→Option ρ):Option ρ:=y7 b o p q r a a2 fun t u v w y z A B C F c d e f g h i j l m n G=>br (!G) (k []) (br ((↑s.length:Int) !=b) (k []) (ou t u v w y z A B C F c d e f g h i j l m n fun H=>aq3 s H 0 [] a3 t u v w y z A B C F c d e f g h i j l m n fun ap aq ar I J M N O Q U W Z aa ab ac ad ae af ag ah ai aj ak al am an=>qp M N O Q U W Z aa ab ac ad ae af ag ah ai aj ak al am an I J fun ao=>k ao))
def aah{ρ:Type}:=shut (aji (ρ:=ρ))
theorem aq7{ρ:Type}(b:Int)(c:Int)(d:Int)(e:Int)(f:Int)(a:Bool)(g:List Int)(h:List Int)(i:List Int)(k:(List Int)→Option ρ):aah b c d e f a g h i k=aji b c d e f a g h i k:=by unfold aah;rw[cu]

def acv{ρ:Type}(rc:Int→Int→Int→Int→Int→Bool→(List Int)→(List Int)→(List Int)→Int→Int→((List Int)→Option ρ)→Option ρ)(c d e f g:Int)(a:Bool)(b h i:List Int)(j l:Int)(k:(List Int)→Option ρ):Option ρ:=br (j==0) (uh c d e f g a b h i l fun m=>aah c d e f g a b h m fun n=>k n) (rc c d e f g a b h i (Aa.wrap (j-1)) (Ab.wrap (2*l)) fun o=>rc c d e f g a b h i (Aa.wrap (j-1)) (Ab.wrap (Ab.wrap (2*l)+1)) fun p=>qx c d e f g a b h i j l o p fun q=>k q)
def vv{ρ:Type}(n:Nat):Int→Int→Int→Int→Int→Bool→(List Int)→(List Int)→(List Int)→Int→Int→((List Int)→Option ρ)→Option ρ:=Nat.rec (fun _ _ _ _ _ _ _ _ _ _ _ _=>none) (fun _ rc=>shut (acv (ρ:=ρ) rc)) n
theorem ag7{ρ:Type}(n:Nat):vv (ρ:=ρ) (n+1)=acv (vv n):=cu _

def am5{ρ:Type}(b c d e f:Int)(a:Bool)(h i m:List Int)(g j:Int)(k:(List Int)→Option ρ):Option ρ:=vo b c d e f a [h,i] fun n=>br (!n) (k []) (br (decide (g<0)) (k []) (jl b c d e f a fun o=>br (decide (g>o)) (k []) (jl b c d e f a fun l=>br (decide (Aa.wrap (l-g)<0)) none (br (j.fdiv (2^min (Aa.wrap (l-g)).toNat 64) !=0) (k []) (vv (g.toNat+1) b c d e f a h i m g j fun p=>k p)))))
def abn{ρ:Type}:=shut (am5 (ρ:=ρ))
theorem awq{ρ:Type}(b:Int)(c:Int)(d:Int)(e:Int)(f:Int)(a:Bool)(g:List Int)(h:List Int)(i:List Int)(j:Int)(l:Int)(k:(List Int)→Option ρ):abn b c d e f a g h i j l k=am5 b c d e f a g h i j l k:=by unfold abn;rw[cu]

def ac6{ρ:Type}(a d b e f:Int)(c:Bool)(g i h:List Int)(k:(List Int)→(List Int)→Int→Option ρ):Option ρ:=jk a d b e f c fun l=>br (!l) (k [] [] 9) (br ((↑g.length:Int) !=a) (k [] [] 14) (br ((↑i.length:Int) !=a) (k [] [] 14) (br ((↑h.length:Int) !=a) (k [] [] 14) (gy [0,0,0,0,0,0,0,0,0,0,0,0,0,0,0,0,0,0,0,0,0,0,0,0,0,0,0,0,0,0,0,0] 0 (Ab.wrap (Aa.wrap (b-1))) fun m=>br (decide (b=0)) none (abn a d b e f c g h m (Aa.wrap (d.tdiv b)) 0 fun n=>jc [h,n] fun j=>jc [g,i,j] fun o=>k j o 0)))))
def afx{ρ:Type}:=shut (ac6 (ρ:=ρ))
theorem ag4{ρ:Type}(b:Int)(c:Int)(d:Int)(e:Int)(f:Int)(a:Bool)(g:List Int)(h:List Int)(i:List Int)(k:(List Int)→(List Int)→Int→Option ρ):afx b c d e f a g h i k=ac6 b c d e f a g h i k:=by unfold afx;rw[cu]

abbrev b5f(ρ:Type):=Int→(List Int)→Int→(List Int)→(List Int)→Option ρ
def av3{ρ:Type}(b:Int)(c:List Int)(a:Int)(d e:List Int)(nx f:b5f ρ):Option ρ:=br (decide (a<(↑c.length:Int))) (br (decide (0≤a)) (br (decide (a<(↑c.length:Int))) (br (decide (0≤Aa.wrap (b+a))) (br (decide (Aa.wrap (b+a)<(↑32:Int))) (nx b c (Aa.wrap (a+1)) (d.set (Aa.wrap (b+a)).toNat (c.getD a.toNat 0)) e) none) none) none) none) (f b c a d e)
abbrev bzk:=Int×(List Int)×Int×(List Int)×(List Int)
abbrev b9j:=bzk
def b7o{ρ:Type}(f:bzk→Option ρ):b5f ρ:=fun c d e a b=>f (c,d,e,a,b)
def b2k{ρ:Type}:aej bzk b9j ρ:=fun (c,d,e,a,b) next ex=>av3 c d e a b (b7o next) (b7o ex)
def b7r{ρ:Type}:=shut (lp (b2k (ρ:=ρ)))
theorem cep{ρ:Type}:b7r (ρ:=ρ)=lp b2k:=cu _
def b3m{ρ:Type}(f:aei bzk b9j ρ)(c:Int)(d:List Int)(e:Int)(a b:List Int)(g:b5f ρ):Option ρ:=f (c,d,e,a,b) (fun (c,d,e,a,b)=>g c d e a b)
def bd1{ρ:Type}:=b3m (lp (b2k (ρ:=ρ)))
def bcl{ρ:Type}:=b3m (b7r (ρ:=ρ))
theorem bfy{ρ:Type}:bcl (ρ:=ρ)=bd1:=congrArg b3m cep
def asi{ρ:Type}(a:List Int)(b:Int)(c:List Int)(k:(List Int)→Option ρ):Option ρ:=bcl b c 0 a [0,0,0,0,0,0,0,0,0,0,0,0,0,0,0,0,0,0,0,0,0,0,0,0,0,0,0,0,0,0,0,0] fun e f g d h=>k d
def aa0{ρ:Type}:=shut (asi (ρ:=ρ))
theorem bch{ρ:Type}(a:List Int)(b:Int)(c:List Int)(k:(List Int)→Option ρ):aa0 a b c k=asi a b c k:=by unfold aa0;rw[cu]

abbrev cb7(ρ:Type):=Int→Int→(List Int)→Option ρ
def azl{ρ:Type}(b a:Int)(c:List Int)(nx d:cb7 ρ):Option ρ:=br (decide (a≥0)) (br (decide (0≤a)) (br (decide (a<(↑c.length:Int))) (nx (b.fdiv (2^8)) (Aa.wrap (a-1)) (c.set a.toNat (Ag.wrap (bits BinOp.and Ab b 255)))) none) none) (d b a c)
abbrev b0c:=Int×Int×(List Int)
abbrev b8f:=b0c
def cce{ρ:Type}(f:b0c→Option ρ):cb7 ρ:=fun a b c=>f (a,b,c)
def b2q{ρ:Type}:aej b0c b8f ρ:=fun (a,b,c) next ex=>azl a b c (cce next) (cce ex)
def cac{ρ:Type}:=shut (lp (b2q (ρ:=ρ)))
theorem cc3{ρ:Type}:cac (ρ:=ρ)=lp b2q:=cu _
def b4a{ρ:Type}(f:aei b0c b8f ρ)(a b:Int)(c:List Int)(d:cb7 ρ):Option ρ:=f (a,b,c) (fun (a,b,c)=>d a b c)
def bha{ρ:Type}:=b4a (lp (b2q (ρ:=ρ)))
def bhm{ρ:Type}:=b4a (cac (ρ:=ρ))
theorem bgp{ρ:Type}:bhm (ρ:=ρ)=bha:=congrArg b4a cc3
def av5{ρ:Type}(b a:Int)(k:(List Int)→Option ρ):Option ρ:=br (decide (a<0)) (k []) (br (decide (a>65536)) (k []) (br (decide (0≤a)) (br (decide (a≤a)) (br (decide (a*(↑1:Int)≤(↑140737488355328:Int))) (bhm b (Aa.wrap (a-1)) (Af a.toNat (0:Int)) fun d e c=>k c) none) none) none))
def aay{ρ:Type}:=shut (av5 (ρ:=ρ))
theorem bh5{ρ:Type}(a:Int)(b:Int)(k:(List Int)→Option ρ):aay a b k=av5 a b k:=by unfold aay;rw[cu]

def as8{ρ:Type}(b:List Int)(a c:Int)(k:(List Int)→Option ρ):Option ρ:=br (a==0) (aay c 4 fun g=>aa0 b 0 g fun h=>k h) (br (a==1) (aay c 12 fun i=>aa0 b 4 i fun j=>k j) (br (a==2) (aay c 4 fun l=>aa0 b 16 l fun m=>aa0 m 20 (Af 12 (0:Int)) fun n=>k n) (br (a==3) (br (a==3) (aay c 4 fun o=>aa0 b (Aa.wrap (8+Aa.wrap (4*a))) o fun p=>k p) (k b)) (br (a==4) (br (a==4) (aay c 4 fun q=>aa0 b (Aa.wrap (8+Aa.wrap (4*a))) q fun d=>k d) (k b)) (br (a==5) (aay c 4 fun e=>aa0 b (Aa.wrap (8+Aa.wrap (4*a))) e fun f=>k f) (k b))))))
def j5{ρ:Type}:=shut (as8 (ρ:=ρ))
theorem bdv{ρ:Type}(a:List Int)(b:Int)(c:Int)(k:(List Int)→Option ρ):j5 a b c k=as8 a b c k:=by unfold j5;rw[cu]

def ang{ρ:Type}(a c d e f:Int)(b:Bool)(g h:List Int)(k:Bool→Option ρ):Option ρ:=om a c d e f b fun i=>br (!i) (k true) (br ((↑g.length:Int) !=a) (k true) (k ((↑h.length:Int) !=a)))
def adu{ρ:Type}:=shut (ang (ρ:=ρ))
theorem axd{ρ:Type}(b:Int)(c:Int)(d:Int)(e:Int)(f:Int)(a:Bool)(g:List Int)(h:List Int)(k:Bool→Option ρ):adu b c d e f a g h k=ang b c d e f a g h k:=by unfold adu;rw[cu]

abbrev b6a(ρ:Type):=(List (List Int))→Int→(List Int)→Option ρ
def as5{ρ:Type}(b:List (List Int))(a:Int)(c:List Int)(nx d:b6a ρ):Option ρ:=br (decide (a<(↑b.length:Int))) (br (decide (0≤a)) (br (decide (a<(↑b.length:Int))) (br (decide ((c.length+(b.getD a.toNat []).length)*1≤140737488355328)) (nx b (Aa.wrap (a+1)) (c++b.getD a.toNat [])) none) none) none) (d b a c)
abbrev by2:=(List (List Int))×Int×(List Int)
abbrev cbg:=by2
def b5d{ρ:Type}(f:by2→Option ρ):b6a ρ:=fun a b c=>f (a,b,c)
def byt{ρ:Type}:aej by2 cbg ρ:=fun (a,b,c) next ex=>as5 a b c (b5d next) (b5d ex)
def b8a{ρ:Type}:=shut (lp (byt (ρ:=ρ)))
theorem cdb{ρ:Type}:b8a (ρ:=ρ)=lp byt:=cu _
def b4p{ρ:Type}(f:aei by2 cbg ρ)(a:List (List Int))(b:Int)(c:List Int)(d:b6a ρ):Option ρ:=f (a,b,c) (fun (a,b,c)=>d a b c)
def ayc{ρ:Type}:=b4p (lp (byt (ρ:=ρ)))
def az1{ρ:Type}:=b4p (b8a (ρ:=ρ))
theorem bbq{ρ:Type}:az1 (ρ:=ρ)=ayc:=congrArg b4p cdb
def aon{ρ:Type}(a:List (List Int))(k:(List Int)→Option ρ):Option ρ:=az1 a 0 [] fun c d b=>k b
def oh{ρ:Type}:=shut (aon (ρ:=ρ))
theorem azn{ρ:Type}(a:List (List Int))(k:(List Int)→Option ρ):oh a k=aon a k:=by unfold oh;rw[cu]

def apj{ρ:Type}(a:Int)(k:Int→Option ρ):Option ρ:=br (a==4) (br (a==4) (k 136) (br (a==5) (k 72) (br (a==6) (k 168) (k 0)))) (br (a==7) (k 136) (br (a==5) (k 72) (br (a==6) (k 168) (k 0))))
def ab1{ρ:Type}:=shut (apj (ρ:=ρ))
theorem azx{ρ:Type}(a:Int)(k:Int→Option ρ):ab1 a k=apj a k:=by unfold ab1;rw[cu]

def asf{ρ:Type}(a:Int)(k:Int→(List Int)→Int→Bool→Int→Option ρ):Option ρ:=ab1 a fun b=>br (b==0) (k 0 [0,0,0,0,0,0,0,0,0,0,0,0,0,0,0,0,0,0,0,0,0,0,0,0,0] 0 false 9) (k a [0,0,0,0,0,0,0,0,0,0,0,0,0,0,0,0,0,0,0,0,0,0,0,0,0] 0 false 0)
def apg{ρ:Type}:=shut (asf (ρ:=ρ))
theorem bby{ρ:Type}(a:Int)(k:Int→(List Int)→Int→Bool→Int→Option ρ):apg a k=asf a k:=by unfold apg;rw[cu]

abbrev cbp(ρ:Type):=Int→Int→(List Int)→(List Int)→Option ρ
def aes{ρ:Type}(d a:Int)(c b:List Int)(nx e:cbp ρ):Option ρ:=br (decide (a<(168:Int))) (br (bits BinOp.and Ab d (1:Int)==(1:Int)) (br (decide ((0:Int)≤Aa.wrap (a.tdiv (7:Int)))) (br (decide (Aa.wrap (a.tdiv (7:Int))<(↑24:Int))) (br (decide (a.tmod (7:Int)<(0:Int))) none (br (decide (Ab.wrap (Ab.wrap ((1:Int)*(2:Int)^min (a.tmod (7:Int)).toNat 64)-(1:Int))<(0:Int))) none (br (decide ((0:Int)≤Aa.wrap (a.tdiv (7:Int)))) (br (decide (Aa.wrap (a.tdiv (7:Int))<(↑24:Int))) (br (decide (Ab.wrap (d*(2:Int))≥(256:Int))) (nx (bits BinOp.xor Ab (bits BinOp.and Ab (Ab.wrap (d*(2:Int))) (255:Int)) (113:Int)) (Aa.wrap (a+(1:Int))) c (b.set (Aa.wrap (a.tdiv (7:Int))).toNat (bits BinOp.or Ab (b.getD (Aa.wrap (a.tdiv (7:Int))).toNat (0:Int)) (Ab.wrap ((1:Int)*(2:Int)^min (Ab.wrap (Ab.wrap ((1:Int)*(2:Int)^min (a.tmod (7:Int)).toNat 64)-(1:Int))).toNat 64))))) (nx (Ab.wrap (d*(2:Int))) (Aa.wrap (a+(1:Int))) c (b.set (Aa.wrap (a.tdiv (7:Int))).toNat (bits BinOp.or Ab (b.getD (Aa.wrap (a.tdiv (7:Int))).toNat (0:Int)) (Ab.wrap ((1:Int)*(2:Int)^min (Ab.wrap (Ab.wrap ((1:Int)*(2:Int)^min (a.tmod (7:Int)).toNat 64)-(1:Int))).toNat 64)))))) none) none))) none) none) (br (decide (Ab.wrap (d*(2:Int))≥(256:Int))) (nx (bits BinOp.xor Ab (bits BinOp.and Ab (Ab.wrap (d*(2:Int))) (255:Int)) (113:Int)) (Aa.wrap (a+(1:Int))) c b) (nx (Ab.wrap (d*(2:Int))) (Aa.wrap (a+(1:Int))) c b))) (e d a c b)
abbrev bzl:=Int×Int×(List Int)×(List Int)
abbrev b5a:=bzl
def byg{ρ:Type}(f:bzl→Option ρ):cbp ρ:=fun c d a b=>f (c,d,a,b)
def bwz{ρ:Type}:aej bzl b5a ρ:=fun (c,d,a,b) next ex=>aes c d a b (byg next) (byg ex)
def cbb{ρ:Type}:=shut (lp (bwz (ρ:=ρ)))
theorem cdh{ρ:Type}:cbb (ρ:=ρ)=lp bwz:=cu _
def bw5{ρ:Type}(f:aei bzl b5a ρ)(c d:Int)(a b:List Int)(e:cbp ρ):Option ρ:=f (c,d,a,b) (fun (c,d,a,b)=>e c d a b)
def aer{ρ:Type}:=bw5 (lp (bwz (ρ:=ρ)))
def an3{ρ:Type}:=bw5 (cbb (ρ:=ρ))
theorem ae5{ρ:Type}:an3 (ρ:=ρ)=aer:=congrArg bw5 cdh
def agq{ρ:Type}(k:(List Int)→Option ρ):Option ρ:=an3 1 0 [0,0,0,0,0,0,0,0,0,0,0,0,0,0,0,0,0,0,0,0,0,0,0,0] [0,0,0,0,0,0,0,0,0,0,0,0,0,0,0,0,0,0,0,0,0,0,0,0] fun b c d a=>k a
def z8{ρ:Type}:=shut (agq (ρ:=ρ))
theorem anz{ρ:Type}  (k:(List Int)→Option ρ):z8  k=agq  k:=by unfold z8;rw[cu]

def abx{ρ:Type}(b a:Int)(k:Int→Option ρ):Option ρ:=br (decide (a.tmod (64:Int)<(0:Int))) none (br (decide (Aa.wrap ((64:Int)-a.tmod (64:Int))<(0:Int))) none (k (bits BinOp.or Ab (Ab.wrap (b*(2:Int)^min (a.tmod (64:Int)).toNat 64)) (b.fdiv ((2:Int)^min (Aa.wrap ((64:Int)-a.tmod (64:Int))).toNat 64)))))
def af7{ρ:Type}:=shut (abx (ρ:=ρ))
theorem aew{ρ:Type}(a:Int)(b:Int)(k:Int→Option ρ):af7 a b k=abx a b k:=by unfold af7;rw[cu]

abbrev cay(ρ:Type):=Int→Int→Int→(List Int)→(List Int)→(List Int)→Option ρ
def anh{ρ:Type}(b a d:Int)(c e f:List Int)(nx g:cay ρ):Option ρ:=br (decide (d<24)) (br (decide (0≤Aa.wrap (b+Aa.wrap (5*a)))) (br (decide (Aa.wrap (b+Aa.wrap (5*a))<(↑25:Int))) (af7 (c.getD (Aa.wrap (b+Aa.wrap (5*a))).toNat 0) (Aa.wrap ((Aa.wrap (Aa.wrap (d+1)*Aa.wrap (d+2))).tdiv 2)) fun h=>br (decide (0≤Aa.wrap (a+Aa.wrap (5*(Aa.wrap (Aa.wrap (2*b)+Aa.wrap (3*a))).tmod 5)))) (br (decide (Aa.wrap (a+Aa.wrap (5*(Aa.wrap (Aa.wrap (2*b)+Aa.wrap (3*a))).tmod 5))<(↑25:Int))) (nx a ((Aa.wrap (Aa.wrap (2*b)+Aa.wrap (3*a))).tmod 5) (Aa.wrap (d+1)) c e (f.set (Aa.wrap (a+Aa.wrap (5*(Aa.wrap (Aa.wrap (2*b)+Aa.wrap (3*a))).tmod 5))).toNat h)) none) none) none) none) (g b a d c e f)
abbrev b1h:=Int×Int×Int×(List Int)×(List Int)×(List Int)
abbrev cam:=b1h
def b0f{ρ:Type}(f:b1h→Option ρ):cay ρ:=fun d e g a b c=>f (d,e,g,a,b,c)
def bwv{ρ:Type}:aej b1h cam ρ:=fun (d,e,f,a,b,c) next ex=>anh d e f a b c (b0f next) (b0f ex)
def b6k{ρ:Type}:=shut (lp (bwv (ρ:=ρ)))
theorem ccp{ρ:Type}:b6k (ρ:=ρ)=lp bwv:=cu _
def bw7{ρ:Type}(f:aei b1h cam ρ)(d e g:Int)(a b c:List Int)(h:cay ρ):Option ρ:=f (d,e,g,a,b,c) (fun (d,e,g,a,b,c)=>h d e g a b c)
def amu{ρ:Type}:=bw7 (lp (bwv (ρ:=ρ)))
def bah{ρ:Type}:=bw7 (b6k (ρ:=ρ))
theorem ali{ρ:Type}:bah (ρ:=ρ)=amu:=congrArg bw7 ccp
def ao4{ρ:Type}(a:List Int)(k:(List Int)→Option ρ):Option ρ:=bah 1 0 0 a [0,0,0,0,0,0,0,0,0,0,0,0,0,0,0,0,0,0,0,0,0,0,0,0,0] ([(0:Int),(0:Int),(0:Int),(0:Int),(0:Int),(0:Int),(0:Int),(0:Int),(0:Int),(0:Int),(0:Int),(0:Int),(0:Int),(0:Int),(0:Int),(0:Int),(0:Int),(0:Int),(0:Int),(0:Int),(0:Int),(0:Int),(0:Int),(0:Int),(0:Int)].set 0 (a.getD 0 0)) fun c d e f g b=>k b
def aiz{ρ:Type}:=shut (ao4 (ρ:=ρ))
theorem ay1{ρ:Type}(a:List Int)(k:(List Int)→Option ρ):aiz a k=ao4 a k:=by unfold aiz;rw[cu]

abbrev bxn(ρ:Type):=Int→(List Int)→(List Int)→(List Int)→Option ρ
def aiv{ρ:Type}(a:Int)(b d c:List Int)(nx e:bxn ρ):Option ρ:=br (decide (a<25)) (br (decide (0≤a.tmod 5)) (br (decide (a.tmod 5<(↑5:Int))) (br (decide (0≤a)) (br (decide (a<(↑25:Int))) (br (decide (0≤a.tmod 5)) (br (decide (a.tmod 5<(↑5:Int))) (nx (Aa.wrap (a+1)) b d (c.set (a.tmod 5).toNat (bits BinOp.xor Ab (c.getD (a.tmod 5).toNat 0) (b.getD a.toNat 0)))) none) none) none) none) none) none) (e a b d c)
abbrev byu:=Int×(List Int)×(List Int)×(List Int)
abbrev b9w:=byu
def by5{ρ:Type}(f:byu→Option ρ):bxn ρ:=fun d a b c=>f (d,a,b,c)
def bxb{ρ:Type}:aej byu b9w ρ:=fun (d,a,b,c) next ex=>aiv d a b c (by5 next) (by5 ex)
def b5b{ρ:Type}:=shut (lp (bxb (ρ:=ρ)))
theorem cc4{ρ:Type}:b5b (ρ:=ρ)=lp bxb:=cu _
def bwy{ρ:Type}(f:aei byu b9w ρ)(d:Int)(a b c:List Int)(e:bxn ρ):Option ρ:=f (d,a,b,c) (fun (d,a,b,c)=>e d a b c)
def aix{ρ:Type}:=bwy (lp (bxb (ρ:=ρ)))
def au5{ρ:Type}:=bwy (b5b (ρ:=ρ))
theorem ah9{ρ:Type}:au5 (ρ:=ρ)=aix:=congrArg bwy cc4
abbrev zc49(ρ:Type):=Int→(List Int)→(List Int)→(List Int)→Option ρ
def ai3{ρ:Type}(a:Int)(b d c:List Int)(nx e:bxn ρ):Option ρ:=br (decide (a<25)) (br (decide (0≤a)) (br (decide (a<(↑25:Int))) (br (decide (0≤(Aa.wrap (a+4)).tmod 5)) (br (decide ((Aa.wrap (a+4)).tmod 5<(↑5:Int))) (br (decide (0≤(Aa.wrap (a+1)).tmod 5)) (br (decide ((Aa.wrap (a+1)).tmod 5<(↑5:Int))) (af7 (b.getD ((Aa.wrap (a+1)).tmod 5).toNat 0) 1 fun f=>br (decide (0≤a)) (br (decide (a<(↑25:Int))) (nx (Aa.wrap (a+1)) b d (c.set a.toNat (bits BinOp.xor Ab (bits BinOp.xor Ab (c.getD a.toNat 0) (b.getD ((Aa.wrap (a+4)).tmod 5).toNat 0)) f))) none) none) none) none) none) none) none) none) (e a b d c)
abbrev bxg:=Int×(List Int)×(List Int)×(List Int)
abbrev b7s:=bxg
def b2h{ρ:Type}(f:bxg→Option ρ):zc49 ρ:=fun d a b c=>f (d,a,b,c)
def bw8{ρ:Type}:aej bxg b7s ρ:=fun (d,a,b,c) next ex=>ai3 d a b c (b2h next) (b2h ex)
def b76{ρ:Type}:=shut (lp (bw8 (ρ:=ρ)))
theorem ceg{ρ:Type}:b76 (ρ:=ρ)=lp bw8:=cu _
def bwu{ρ:Type}(f:aei bxg b7s ρ)(d:Int)(a b c:List Int)(e:bxn ρ):Option ρ:=f (d,a,b,c) (fun (d,a,b,c)=>e d a b c)
def ai0{ρ:Type}:=bwu (lp (bw8 (ρ:=ρ)))
def at6{ρ:Type}:=bwu (b76 (ρ:=ρ))
theorem ah7{ρ:Type}:at6 (ρ:=ρ)=ai0:=congrArg bwu ceg
def alf{ρ:Type}(a:List Int)(k:(List Int)→Option ρ):Option ρ:=au5 0 a [0,0,0,0,0,0,0,0,0,0,0,0,0,0,0,0,0,0,0,0,0,0,0,0,0] [0,0,0,0,0] fun f b c d=>at6 0 d c b fun g h i e=>k e
def adz{ρ:Type}:=shut (alf (ρ:=ρ))
theorem aus{ρ:Type}(a:List Int)(k:(List Int)→Option ρ):adz a k=alf a k:=by unfold adz;rw[cu]

abbrev b5x(ρ:Type):=Int→Int→(List Int)→(List Int)→(List Int)→(List Int)→Option ρ
def ark{ρ:Type}(f a:Int)(c d e b:List Int)(nx g:b5x ρ):Option ρ:=br (decide (a<25)) (br (decide (0≤a)) (br (decide (a<(↑25:Int))) (br (decide (0≤Aa.wrap (Aa.wrap (Aa.wrap (a.tdiv 5)*5)+(Aa.wrap (a+1)).tmod 5))) (br (decide (Aa.wrap (Aa.wrap (Aa.wrap (a.tdiv 5)*5)+(Aa.wrap (a+1)).tmod 5)<(↑25:Int))) (br (decide (0≤Aa.wrap (Aa.wrap (Aa.wrap (a.tdiv 5)*5)+(Aa.wrap (a+2)).tmod 5))) (br (decide (Aa.wrap (Aa.wrap (Aa.wrap (a.tdiv 5)*5)+(Aa.wrap (a+2)).tmod 5)<(↑25:Int))) (br (decide (0≤a)) (br (decide (a<(↑25:Int))) (nx f (Aa.wrap (a+1)) c d (e.set a.toNat (bits BinOp.xor Ab (b.getD a.toNat 0) (bits BinOp.and Ab (bits BinOp.xor Ab (b.getD (Aa.wrap (Aa.wrap (Aa.wrap (a.tdiv 5)*5)+(Aa.wrap (a+1)).tmod 5)).toNat 0) 18446744073709551615) (b.getD (Aa.wrap (Aa.wrap (Aa.wrap (a.tdiv 5)*5)+(Aa.wrap (a+2)).tmod 5)).toNat 0)))) b) none) none) none) none) none) none) none) none) (g f a c d e b)
abbrev bya:=Int×Int×(List Int)×(List Int)×(List Int)×(List Int)
abbrev b68:=bya
def b7a{ρ:Type}(f:bya→Option ρ):b5x ρ:=fun e g a b c d=>f (e,g,a,b,c,d)
def b2o{ρ:Type}:aej bya b68 ρ:=fun (e,f,a,b,c,d) next ex=>ark e f a b c d (b7a next) (b7a ex)
def b42{ρ:Type}:=shut (lp (b2o (ρ:=ρ)))
theorem cdc{ρ:Type}:b42 (ρ:=ρ)=lp b2o:=cu _
def b4i{ρ:Type}(f:aei bya b68 ρ)(e g:Int)(a b c d:List Int)(h:b5x ρ):Option ρ:=f (e,g,a,b,c,d) (fun (e,g,a,b,c,d)=>h e g a b c d)
def aq8{ρ:Type}:=b4i (lp (b2o (ρ:=ρ)))
def ak3{ρ:Type}:=b4i (b42 (ρ:=ρ))
theorem avy{ρ:Type}:ak3 (ρ:=ρ)=aq8:=congrArg b4i cdc
abbrev b5k(ρ:Type):=Int→(List Int)→(List Int)→(List Int)→Option ρ
def ak8{ρ:Type}(e:Int)(a b c:List Int)(nx h:b5k ρ):Option ρ:=br (decide (e<24)) (adz a fun i=>aiz i fun j=>ak3 e 0 c b a j fun d l f k g m=>br (decide (0≤d)) (br (decide (d<(↑24:Int))) (nx (Aa.wrap (d+1)) (g.set 0 (bits BinOp.xor Ab (g.getD 0 0) (f.getD d.toNat 0))) k f) none) none) (h e a b c)
abbrev byl:=Int×(List Int)×(List Int)×(List Int)
abbrev cae:=byl
def b6c{ρ:Type}(f:byl→Option ρ):b5k ρ:=fun d a b c=>f (d,a,b,c)
def bz4{ρ:Type}:aej byl cae ρ:=fun (d,a,b,c) next ex=>ak8 d a b c (b6c next) (b6c ex)
def b5y{ρ:Type}:=shut (lp (bz4 (ρ:=ρ)))
theorem cdt{ρ:Type}:b5y (ρ:=ρ)=lp bz4:=cu _
def b36{ρ:Type}(f:aei byl cae ρ)(d:Int)(a b c:List Int)(e:b5k ρ):Option ρ:=f (d,a,b,c) (fun (d,a,b,c)=>e d a b c)
def arp{ρ:Type}:=b36 (lp (bz4 (ρ:=ρ)))
def aqs{ρ:Type}:=b36 (b5y (ρ:=ρ))
theorem awc{ρ:Type}:aqs (ρ:=ρ)=arp:=congrArg b36 cdt
def ajv{ρ:Type}(a:List Int)(k:(List Int)→Option ρ):Option ρ:=z8 fun b=>aqs 0 a [0,0,0,0,0,0,0,0,0,0,0,0,0,0,0,0,0,0,0,0,0,0,0,0,0] b fun d c e f=>k c
def ql{ρ:Type}:=shut (ajv (ρ:=ρ))
theorem aqr{ρ:Type}(a:List Int)(k:(List Int)→Option ρ):ql a k=ajv a k:=by unfold ql;rw[cu]

def arz{ρ:Type}(b:List Int)(a c:Int)(k:(List Int)→Option ρ):Option ρ:=br (decide (0≤Aa.wrap (a.tdiv 8))) (br (decide (Aa.wrap (a.tdiv 8)<(↑25:Int))) (br (decide (Aa.wrap (8*a.tmod 8)<0)) none (br (decide (0≤Aa.wrap (a.tdiv 8))) (br (decide (Aa.wrap (a.tdiv 8)<(↑25:Int))) (k (b.set (Aa.wrap (a.tdiv 8)).toNat (bits BinOp.xor Ab (b.getD (Aa.wrap (a.tdiv 8)).toNat 0) (Ab.wrap (Ab.wrap c*2^min (Aa.wrap (8*a.tmod 8)).toNat 64))))) none) none)) none) none
def aat{ρ:Type}:=shut (arz (ρ:=ρ))
theorem bdb{ρ:Type}(a:List Int)(b:Int)(c:Int)(k:(List Int)→Option ρ):aat a b c k=arz a b c k:=by unfold aat;rw[cu]

abbrev caz(ρ:Type):=Int→Int→(List Int)→Int→(List Int)→Int→Bool→Int→(List Int)→Int→Bool→Option ρ
def aj5{ρ:Type}(j k:Int)(b:List Int)(d:Int)(c:List Int)(a:Int)(e:Bool)(f:Int)(g:List Int)(h:Int)(i:Bool)(nx m:caz ρ):Option ρ:=br (decide ((↑b.length:Int)<j)) (br (a==k) (ql c fun l=>br (decide ((b.length+1)*1≤140737488355328)) (nx j k (b++[Ag.wrap ((l.getD 0 0).fdiv (2^0))]) d l (Aa.wrap (0+1)) e f g h i) none) (br (decide (0≤Aa.wrap (a.tdiv 8))) (br (decide (Aa.wrap (a.tdiv 8)<(↑25:Int))) (br (decide (Aa.wrap (8*a.tmod 8)<0)) none (br (decide ((b.length+1)*1≤140737488355328)) (nx j k (b++[Ag.wrap ((c.getD (Aa.wrap (a.tdiv 8)).toNat 0).fdiv (2^min (Aa.wrap (8*a.tmod 8)).toNat 64))]) d c (Aa.wrap (a+1)) e f g h i) none)) none) none)) (m j k b d c a e f g h i)
abbrev bze:=Int×Int×(List Int)×Int×(List Int)×Int×Bool×Int×(List Int)×Int×Bool
abbrev b8e:=bze
def b5m{ρ:Type}(f:bze→Option ρ):caz ρ:=fun k l j a b c d e g h i=>f (k,l,j,a,b,c,d,e,g,h,i)
def b03{ρ:Type}:aej bze b8e ρ:=fun (j,k,i,a,b,c,d,e,f,g,h) next ex=>aj5 j k i a b c d e f g h (b5m next) (b5m ex)
def cbu{ρ:Type}:=shut (lp (b03 (ρ:=ρ)))
theorem cej{ρ:Type}:cbu (ρ:=ρ)=lp b03:=cu _
def b3u{ρ:Type}(f:aei bze b8e ρ)(k l:Int)(j:List Int)(a:Int)(b:List Int)(c:Int)(d:Bool)(e:Int)(g:List Int)(h:Int)(i:Bool)(m:caz ρ):Option ρ:=f (k,l,j,a,b,c,d,e,g,h,i) (fun (k,l,j,a,b,c,d,e,g,h,i)=>m k l j a b c d e g h i)
def aox{ρ:Type}:=b3u (lp (b03 (ρ:=ρ)))
def aas{ρ:Type}:=b3u (cbu (ρ:=ρ))
theorem auv{ρ:Type}:aas (ρ:=ρ)=aox:=congrArg b3u cej
def ajw{ρ:Type}(a:Int)(b:List Int)(c:Int)(d:Bool)(f:Int)(k:Int→(List Int)→Int→Bool→(List Int)→Option ρ):Option ρ:=br (decide (f<0)) (k a b c d []) (ab1 a fun e=>br (!d) (br (a==4) (aat b c 6 fun G=>aat G (Aa.wrap (e-1)) 128 fun H=>ql H fun I=>aas f e [] a I 0 true 0 [0,0,0,0,0,0,0,0,0,0,0,0,0,0,0,0,0,0,0,0,0,0,0,0,0] 0 false fun q4 q5 J M N O g Q U W Z=>k M N O g J) (br (a==5) (aat b c 6 fun h=>aat h (Aa.wrap (e-1)) 128 fun i=>ql i fun j=>aas f e [] a j 0 true 0 [0,0,0,0,0,0,0,0,0,0,0,0,0,0,0,0,0,0,0,0,0,0,0,0,0] 0 false fun aa ab l m n o p ac ad ae af=>k m n o p l) (aat b c 31 fun q=>aat q (Aa.wrap (e-1)) 128 fun r=>ql r fun s=>aas f e [] a s 0 true 0 [0,0,0,0,0,0,0,0,0,0,0,0,0,0,0,0,0,0,0,0,0,0,0,0,0] 0 false fun ag ah t u v w y ai aj ak al=>k u v w y t))) (aas f e [] a b c d 0 [0,0,0,0,0,0,0,0,0,0,0,0,0,0,0,0,0,0,0,0,0,0,0,0,0] 0 false fun am an z A B C F ao ap aq ar=>k A B C F z))
def aap{ρ:Type}:=shut (ajw (ρ:=ρ))
theorem ara{ρ:Type}(b:Int)(a:List Int)(d:Int)(c:Bool)(e:Int)(k:Int→(List Int)→Int→Bool→(List Int)→Option ρ):aap b a d c e k=ajw b a d c e k:=by unfold aap;rw[cu]

abbrev b6o(ρ:Type):=(List Int)→Int→Int→(List Int)→Int→Bool→Int→(List Int)→Int→Bool→Option ρ
def anj{ρ:Type}(i:List Int)(c a:Int)(j:List Int)(b:Int)(d:Bool)(e:Int)(f:List Int)(g:Int)(h:Bool)(nx l:b6o ρ):Option ρ:=br (decide (c<(↑i.length:Int))) (br (decide (0≤c)) (br (decide (c<(↑i.length:Int))) (aat j b (i.getD c.toNat 0) fun k=>ab1 a fun m=>br (Aa.wrap (b+1)==m) (ql k fun n=>nx i (Aa.wrap (c+1)) a n 0 d e f g h) (nx i (Aa.wrap (c+1)) a k (Aa.wrap (b+1)) d e f g h)) none) none) (l i c a j b d e f g h)
abbrev b0i:=(List Int)×Int×Int×(List Int)×Int×Bool×Int×(List Int)×Int×Bool
abbrev b8z:=b0i
def cbf{ρ:Type}(f:b0i→Option ρ):b6o ρ:=fun j k a b c d e g h i=>f (j,k,a,b,c,d,e,g,h,i)
def byp{ρ:Type}:aej b0i b8z ρ:=fun (i,j,a,b,c,d,e,f,g,h) next ex=>anj i j a b c d e f g h (cbf next) (cbf ex)
def b7j{ρ:Type}:=shut (lp (byp (ρ:=ρ)))
theorem cdk{ρ:Type}:b7j (ρ:=ρ)=lp byp:=cu _
def b4t{ρ:Type}(f:aei b0i b8z ρ)(j:List Int)(k a:Int)(b:List Int)(c:Int)(d:Bool)(e:Int)(g:List Int)(h:Int)(i:Bool)(l:b6o ρ):Option ρ:=f (j,k,a,b,c,d,e,g,h,i) (fun (j,k,a,b,c,d,e,g,h,i)=>l j k a b c d e g h i)
def au4{ρ:Type}:=b4t (lp (byp (ρ:=ρ)))
def auo{ρ:Type}:=b4t (b7j (ρ:=ρ))
theorem ax0{ρ:Type}:auo (ρ:=ρ)=au4:=congrArg b4t cdk
def ale{ρ:Type}(c:Int)(a:List Int)(d:Int)(b:Bool)(e:List Int)(k:Int→(List Int)→Int→Bool→Option ρ):Option ρ:=br b (k c a d b) (auo e 0 c a d b 0 [0,0,0,0,0,0,0,0,0,0,0,0,0,0,0,0,0,0,0,0,0,0,0,0,0] 0 false fun j l f g h i m n o p=>k f g h i)
def abo{ρ:Type}:=shut (ale (ρ:=ρ))
theorem auz{ρ:Type}(b:Int)(a:List Int)(d:Int)(c:Bool)(e:List Int)(k:Int→(List Int)→Int→Bool→Option ρ):abo b a d c e k=ale b a d c e k:=by unfold abo;rw[cu]

def ar6{ρ:Type}(d:Int)(e:List Int)(a:Int)(k:(List Int)→Int→Option ρ):Option ρ:=apg d fun f g h i b=>br (b !=0) (k [] b) (br (decide (a<0)) (k [] 8) (br (decide (a>16777216)) (k [] 8) (abo f g h i e fun j l m n=>aap j l m n a fun r o p q c=>k c 0)))
def akb{ρ:Type}:=shut (ar6 (ρ:=ρ))
theorem bdu{ρ:Type}(a:Int)(b:List Int)(c:Int)(k:(List Int)→Int→Option ρ):akb a b c k=ar6 a b c k:=by unfold akb;rw[cu]

def ata{ρ:Type}(a:Int)(k:Int→(List Int)→(List Int)→Int→Int→Option ρ):Option ρ:=br (a==1) (k a [1779033703,3144134277,1013904242,2773480762,1359893119,2600822924,528734635,1541459225] [] 0 0) (br (a==2) (k a [14680500436340154072,7105036623409894663,10473403895298186519,1526699215303891257,7436329637833083697,10282925794625328401,15784041429090275239,5167115440072839076] [] 0 0) (br (a==3) (k a [7640891576956012808,13503953896175478587,4354685564936845355,11912009170470909681,5840696475078001361,11170449401992604703,2270897969802886507,6620516959819538809] [] 0 0) (k 0 [0,0,0,0,0,0,0,0] [] 0 9)))
def aju{ρ:Type}:=shut (ata (ρ:=ρ))
theorem bd4{ρ:Type}(a:Int)(k:Int→(List Int)→(List Int)→Int→Int→Option ρ):aju a k=ata a k:=by unfold aju;rw[cu]

def amn{ρ:Type}(a:Int)(k:Int→Option ρ):Option ρ:=br (a==1) (k 64) (k 128)
def aaw{ρ:Type}:=shut (amn (ρ:=ρ))
theorem awh{ρ:Type}(a:Int)(k:Int→Option ρ):aaw a k=amn a k:=by unfold aaw;rw[cu]

def an9{ρ:Type}(k:(List Int)→Option ρ):Option ρ:=k [1116352408,1899447441,3049323471,3921009573,961987163,1508970993,2453635748,2870763221,3624381080,310598401,607225278,1426881987,1925078388,2162078206,2614888103,3248222580,3835390401,4022224774,264347078,604807628,770255983,1249150122,1555081692,1996064986,2554220882,2821834349,2952996808,3210313671,3336571891,3584528711,113926993,338241895,666307205,773529912,1294757372,1396182291,1695183700,1986661051,2177026350,2456956037,2730485921,2820302411,3259730800,3345764771,3516065817,3600352804,4094571909,275423344,430227734,506948616,659060556,883997877,958139571,1322822218,1537002063,1747873779,1955562222,2024104815,2227730452,2361852424,2428436474,2756734187,3204031479,3329325298]
def aac{ρ:Type}:=shut (an9 (ρ:=ρ))
theorem ajh{ρ:Type}  (k:(List Int)→Option ρ):aac  k=an9  k:=by unfold aac;rw[cu]

def an0{ρ:Type}(k:(List Int)→Option ρ):Option ρ:=k [4794697086780616226,8158064640168781261,13096744586834688815,16840607885511220156,4131703408338449720,6480981068601479193,10538285296894168987,12329834152419229976,15566598209576043074,1334009975649890238,2608012711638119052,6128411473006802146,8268148722764581231,9286055187155687089,11230858885718282805,13951009754708518548,16472876342353939154,17275323862435702243,1135362057144423861,2597628984639134821,3308224258029322869,5365058923640841347,6679025012923562964,8573033837759648693,10970295158949994411,12119686244451234320,12683024718118986047,13788192230050041572,14330467153632333762,15395433587784984357,489312712824947311,1452737877330783856,2861767655752347644,3322285676063803686,5560940570517711597,5996557281743188959,7280758554555802590,8532644243296465576,9350256976987008742,10552545826968843579,11727347734174303076,12113106623233404929,14000437183269869457,14369950271660146224,15101387698204529176,15463397548674623760,17586052441742319658,1182934255886127544,1847814050463011016,2177327727835720531,2830643537854262169,3796741975233480872,4115178125766777443,5681478168544905931,6601373596472566643,7507060721942968483,8399075790359081724,8693463985226723168,9568029438360202098,10144078919501101548,10430055236837252648,11840083180663258601,13761210420658862357,14299343276471374635,14566680578165727644,15097957966210449927,16922976911328602910,17689382322260857208,500013540394364858,748580250866718886,1242879168328830382,1977374033974150939,2944078676154940804,3659926193048069267,4368137639120453308,4836135668995329356,5532061633213252278,6448918945643986474,6902733635092675308,7801388544844847127]
def aad{ρ:Type}:=shut (an0 (ρ:=ρ))
theorem akd{ρ:Type}  (k:(List Int)→Option ρ):aad  k=an0  k:=by unfold aad;rw[cu]

abbrev b7t(ρ:Type):=(List Int)→Int→Int→Option ρ
def avf{ρ:Type}(b:List Int)(c a:Int)(nx d:b7t ρ):Option ρ:=br (decide (a<(↑b.length:Int))) (br (decide (0≤a)) (br (decide (a<(↑b.length:Int))) (nx b (Ab.wrap (Ab.wrap (c*256)+Ab.wrap (b.getD a.toNat 0))) (Aa.wrap (a+1))) none) none) (d b c a)
abbrev bz9:=(List Int)×Int×Int
abbrev b67:=bz9
def b85{ρ:Type}(f:bz9→Option ρ):b7t ρ:=fun a b c=>f (a,b,c)
def bxz{ρ:Type}:aej bz9 b67 ρ:=fun (a,b,c) next ex=>avf a b c (b85 next) (b85 ex)
def b6v{ρ:Type}:=shut (lp (bxz (ρ:=ρ)))
theorem cdx{ρ:Type}:b6v (ρ:=ρ)=lp bxz:=cu _
def b4j{ρ:Type}(f:aei bz9 b67 ρ)(a:List Int)(b c:Int)(d:b7t ρ):Option ρ:=f (a,b,c) (fun (a,b,c)=>d a b c)
def bdd{ρ:Type}:=b4j (lp (bxz (ρ:=ρ)))
def bc5{ρ:Type}:=b4j (b6v (ρ:=ρ))
theorem bew{ρ:Type}:bc5 (ρ:=ρ)=bdd:=congrArg b4j cdx
def asc{ρ:Type}(a:List Int)(k:Int→Option ρ):Option ρ:=bc5 a 0 0 fun c b d=>k b
def aek{ρ:Type}:=shut (asc (ρ:=ρ))
theorem bcz{ρ:Type}(a:List Int)(k:Int→Option ρ):aek a k=asc a k:=by unfold aek;rw[cu]

def af6{ρ:Type}(b a:Int)(c:Bool)(k:Int→Option ρ):Option ρ:=br c (br (decide (a<0)) none (br (decide (Aa.wrap (64-a)<0)) none (k (bits BinOp.or Ab (b.fdiv (2^min a.toNat 64)) (Ab.wrap (b*2^min (Aa.wrap (64-a)).toNat 64)))))) (br (decide (a<0)) none (br (decide (Aa.wrap (32-a)<0)) none (k (bits BinOp.or Ab (b.fdiv (2^min a.toNat 64)) (bits BinOp.and Ab (Ab.wrap (b*2^min (Aa.wrap (32-a)).toNat 64)) 4294967295)))))
def aal{ρ:Type}:=shut (af6 (ρ:=ρ))
theorem aku{ρ:Type}(a:Int)(b:Int)(c:Bool)(k:Int→Option ρ):aal a b c k=af6 a b c k:=by unfold aal;rw[cu]

def adn{ρ:Type}(a d e c:Int)(f b:Bool)(k:Int→Option ρ):Option ρ:=br (decide (c<0)) none (br (!f) (aal a c b fun g=>aal a d b fun h=>aal a e b fun i=>k (bits BinOp.xor Ab (bits BinOp.xor Ab h i) g)) (aal a d b fun j=>aal a e b fun l=>k (bits BinOp.xor Ab (bits BinOp.xor Ab j l) (a.fdiv (2^min c.toNat 64)))))
def aar{ρ:Type}:=shut (adn (ρ:=ρ))
theorem agr{ρ:Type}(a:Int)(b:Int)(c:Int)(d:Int)(e:Bool)(f:Bool)(k:Int→Option ρ):aar a b c d e f k=adn a b c d e f k:=by unfold aar;rw[cu]

abbrev ccf(ρ:Type):=(List Int)→Bool→Int→Int→Int→Int→(List Int)→Option ρ
def aht{ρ:Type}(d:List Int)(f:Bool)(g e c a:Int)(b:List Int)(nx h:ccf ρ):Option ρ:=br (decide (a<g)) (br (decide (a<16)) (br (decide (0≤Aa.wrap (a*c))) (br (decide (Aa.wrap (a*c)≤Aa.wrap (Aa.wrap (a*c)+c))) (br (decide (Aa.wrap (Aa.wrap (a*c)+c)≤(↑d.length:Int))) (aek (Ad (Aa.wrap (a*c)).toNat (Ac (Aa.wrap (Aa.wrap (a*c)+c)).toNat d)) fun i=>br (decide ((b.length+1)*8≤140737488355328)) (nx d f g e c (Aa.wrap (a+1)) (b++[i])) none) none) none) none) (br (decide (0≤Aa.wrap (a-15))) (br (decide (Aa.wrap (a-15)<(↑b.length:Int))) (aar (b.getD (Aa.wrap (a-15)).toNat 0) 7 18 3 true false fun j=>br (decide (0≤Aa.wrap (a-2))) (br (decide (Aa.wrap (a-2)<(↑b.length:Int))) (aar (b.getD (Aa.wrap (a-2)).toNat 0) 17 19 10 true false fun k=>br f (br (decide (0≤Aa.wrap (a-15))) (br (decide (Aa.wrap (a-15)<(↑b.length:Int))) (aar (b.getD (Aa.wrap (a-15)).toNat 0) 1 8 7 true true fun l=>br (decide (0≤Aa.wrap (a-2))) (br (decide (Aa.wrap (a-2)<(↑b.length:Int))) (aar (b.getD (Aa.wrap (a-2)).toNat 0) 19 61 6 true true fun m=>br (decide (0≤Aa.wrap (a-7))) (br (decide (Aa.wrap (a-7)<(↑b.length:Int))) (br (decide (0≤Aa.wrap (a-16))) (br (decide (Aa.wrap (a-16)<(↑b.length:Int))) (br (decide ((b.length+1)*8≤140737488355328)) (nx d f g e c (Aa.wrap (a+1)) (b++[bits BinOp.and Ab (Ab.wrap (Ab.wrap (Ab.wrap (m+b.getD (Aa.wrap (a-7)).toNat 0)+l)+b.getD (Aa.wrap (a-16)).toNat 0)) e])) none) none) none) none) none) none) none) none) none) (br (decide (0≤Aa.wrap (a-7))) (br (decide (Aa.wrap (a-7)<(↑b.length:Int))) (br (decide (0≤Aa.wrap (a-16))) (br (decide (Aa.wrap (a-16)<(↑b.length:Int))) (br (decide ((b.length+1)*8≤140737488355328)) (nx d f g e c (Aa.wrap (a+1)) (b++[bits BinOp.and Ab (Ab.wrap (Ab.wrap (Ab.wrap (k+b.getD (Aa.wrap (a-7)).toNat 0)+j)+b.getD (Aa.wrap (a-16)).toNat 0)) e])) none) none) none) none) none)) none) none) none) none)) (h d f g e c a b)
abbrev bxy:=(List Int)×Bool×Int×Int×Int×Int×(List Int)
abbrev b5u:=bxy
def b4g{ρ:Type}(f:bxy→Option ρ):ccf ρ:=fun b c d e g a h=>f (b,c,d,e,g,a,h)
def bw9{ρ:Type}:aej bxy b5u ρ:=fun (b,c,d,e,f,a,g) next ex=>aht b c d e f a g (b4g next) (b4g ex)
def cbt{ρ:Type}:=shut (lp (bw9 (ρ:=ρ)))
theorem cdf{ρ:Type}:cbt (ρ:=ρ)=lp bw9:=cu _
def b04{ρ:Type}(f:aei bxy b5u ρ)(b:List Int)(c:Bool)(d e g a:Int)(h:List Int)(i:ccf ρ):Option ρ:=f (b,c,d,e,g,a,h) (fun (b,c,d,e,g,a,h)=>i b c d e g a h)
def ap2{ρ:Type}:=b04 (lp (bw9 (ρ:=ρ)))
def aoo{ρ:Type}:=b04 (cbt (ρ:=ρ))
theorem ao0{ρ:Type}:aoo (ρ:=ρ)=ap2:=congrArg b04 cdf
def aiw{ρ:Type}(b:List Int)(a:Bool)(c d:Int)(k:(List Int)→Option ρ):Option ρ:=br a (aoo b a c d 8 0 [] fun j l m n o p f=>k f) (aoo b a c d 4 0 [] fun q r s g h i e=>k e)
def adt{ρ:Type}:=shut (aiw (ρ:=ρ))
theorem apb{ρ:Type}(a:List Int)(b:Bool)(c:Int)(d:Int)(k:(List Int)→Option ρ):adt a b c d k=aiw a b c d k:=by unfold adt;rw[cu]

abbrev b7q(ρ:Type):=Bool→Int→Int→Int→(List Int)→(List Int)→(List Int)→(List Int)→(List Int)→(List Int)→Option ρ
def afl{ρ:Type}(i:Bool)(j c b:Int)(g h d e f a:List Int)(nx m:b7q ρ):Option ρ:=br (decide (b<j)) (aar (a.getD 0 0) 2 13 22 false false fun n=>aar (a.getD 4 0) 6 11 25 false false fun k=>br i (aar (a.getD 0 0) 28 34 39 false true fun o=>aar (a.getD 4 0) 14 18 41 false true fun l=>br (decide (0≤b)) (br (decide (b<(↑80:Int))) (br (decide (0≤b)) (br (decide (b<(↑f.length:Int))) (nx i j c (Aa.wrap (b+1)) g h d e f [bits BinOp.and Ab (Ab.wrap (Ab.wrap (Ab.wrap (Ab.wrap (Ab.wrap (a.getD 7 0+l)+bits BinOp.xor Ab (bits BinOp.and Ab (a.getD 4 0) (a.getD 5 0)) (bits BinOp.and Ab (bits BinOp.xor Ab c (a.getD 4 0)) (a.getD 6 0)))+e.getD b.toNat 0)+f.getD b.toNat 0)+Ab.wrap (o+bits BinOp.xor Ab (bits BinOp.xor Ab (bits BinOp.and Ab (a.getD 0 0) (a.getD 1 0)) (bits BinOp.and Ab (a.getD 0 0) (a.getD 2 0))) (bits BinOp.and Ab (a.getD 1 0) (a.getD 2 0))))) c,a.getD 0 0,a.getD 1 0,a.getD 2 0,bits BinOp.and Ab (Ab.wrap (a.getD 3 0+Ab.wrap (Ab.wrap (Ab.wrap (Ab.wrap (a.getD 7 0+l)+bits BinOp.xor Ab (bits BinOp.and Ab (a.getD 4 0) (a.getD 5 0)) (bits BinOp.and Ab (bits BinOp.xor Ab c (a.getD 4 0)) (a.getD 6 0)))+e.getD b.toNat 0)+f.getD b.toNat 0))) c,a.getD 4 0,a.getD 5 0,a.getD 6 0]) none) none) none) none) (br (decide (0≤b)) (br (decide (b<(↑64:Int))) (br (decide (0≤b)) (br (decide (b<(↑f.length:Int))) (nx i j c (Aa.wrap (b+1)) g h d e f [bits BinOp.and Ab (Ab.wrap (Ab.wrap (Ab.wrap (Ab.wrap (Ab.wrap (a.getD 7 0+k)+bits BinOp.xor Ab (bits BinOp.and Ab (a.getD 4 0) (a.getD 5 0)) (bits BinOp.and Ab (bits BinOp.xor Ab c (a.getD 4 0)) (a.getD 6 0)))+d.getD b.toNat 0)+f.getD b.toNat 0)+Ab.wrap (n+bits BinOp.xor Ab (bits BinOp.xor Ab (bits BinOp.and Ab (a.getD 0 0) (a.getD 1 0)) (bits BinOp.and Ab (a.getD 0 0) (a.getD 2 0))) (bits BinOp.and Ab (a.getD 1 0) (a.getD 2 0))))) c,a.getD 0 0,a.getD 1 0,a.getD 2 0,bits BinOp.and Ab (Ab.wrap (a.getD 3 0+Ab.wrap (Ab.wrap (Ab.wrap (Ab.wrap (a.getD 7 0+k)+bits BinOp.xor Ab (bits BinOp.and Ab (a.getD 4 0) (a.getD 5 0)) (bits BinOp.and Ab (bits BinOp.xor Ab c (a.getD 4 0)) (a.getD 6 0)))+d.getD b.toNat 0)+f.getD b.toNat 0))) c,a.getD 4 0,a.getD 5 0,a.getD 6 0]) none) none) none) none)) (m i j c b g h d e f a)
abbrev b1b:=Bool×Int×Int×Int×(List Int)×(List Int)×(List Int)×(List Int)×(List Int)×(List Int)
abbrev cbn:=b1b
def b4r{ρ:Type}(f:b1b→Option ρ):b7q ρ:=fun h i j g a b c d k e=>f (h,i,j,g,a,b,c,d,k,e)
def bw6{ρ:Type}:aej b1b cbn ρ:=fun (g,h,i,f,a,b,c,d,j,e) next ex=>afl g h i f a b c d j e (b4r next) (b4r ex)
def b7i{ρ:Type}:=shut (lp (bw6 (ρ:=ρ)))
theorem cen{ρ:Type}:b7i (ρ:=ρ)=lp bw6:=cu _
def b0g{ρ:Type}(f:aei b1b cbn ρ)(h:Bool)(i j g:Int)(a b c d k e:List Int)(l:b7q ρ):Option ρ:=f (h,i,j,g,a,b,c,d,k,e) (fun (h,i,j,g,a,b,c,d,k,e)=>l h i j g a b c d k e)
def amt{ρ:Type}:=b0g (lp (bw6 (ρ:=ρ)))
def aff{ρ:Type}:=b0g (b7i (ρ:=ρ))
theorem an2{ρ:Type}:aff (ρ:=ρ)=amt:=congrArg b0g cen
abbrev b5e(ρ:Type):=Int→Int→(List Int)→(List Int)→(List Int)→Option ρ
def afr{ρ:Type}(e a:Int)(b d c:List Int)(nx f:b5e ρ):Option ρ:=br (decide (a<8)) (br (decide (0≤a)) (br (decide (a<(↑8:Int))) (br (decide (0≤a)) (br (decide (a<(↑8:Int))) (br (decide (0≤a)) (br (decide (a<(↑8:Int))) (nx e (Aa.wrap (a+1)) b d (c.set a.toNat (bits BinOp.and Ab (Ab.wrap (c.getD a.toNat 0+b.getD a.toNat 0)) e))) none) none) none) none) none) none) (f e a b d c)
abbrev byo:=Int×Int×(List Int)×(List Int)×(List Int)
abbrev cbo:=byo
def b3i{ρ:Type}(f:byo→Option ρ):b5e ρ:=fun e d a b c=>f (e,d,a,b,c)
def bw2{ρ:Type}:aej byo cbo ρ:=fun (e,d,a,b,c) next ex=>afr e d a b c (b3i next) (b3i ex)
def b9e{ρ:Type}:=shut (lp (bw2 (ρ:=ρ)))
theorem cc7{ρ:Type}:b9e (ρ:=ρ)=lp bw2:=cu _
def b0o{ρ:Type}(f:aei byo cbo ρ)(e d:Int)(a b c:List Int)(g:b5e ρ):Option ρ:=f (e,d,a,b,c) (fun (e,d,a,b,c)=>g e d a b c)
def amq{ρ:Type}:=b0o (lp (bw2 (ρ:=ρ)))
def afk{ρ:Type}:=b0o (b9e (ρ:=ρ))
theorem aob{ρ:Type}:afk (ρ:=ρ)=amq:=congrArg b0o cc7
def ai2{ρ:Type}(b c:List Int)(a:Bool)(k:(List Int)→Option ρ):Option ρ:=aac fun d=>aad fun e=>br a (adt c a 80 18446744073709551615 fun o=>aff a 80 18446744073709551615 0 b [0,0,0,0,0,0,0,0] d e o b fun N O p Q q r U s t f=>afk p 0 q r f fun u v w y g=>k g) (adt c a 64 4294967295 fun h=>aff a 64 4294967295 0 b [0,0,0,0,0,0,0,0] d e h b fun z A i B j l C F G m=>afk i 0 j l m fun H I J M n=>k n)
def aen{ρ:Type}:=shut (ai2 (ρ:=ρ))
theorem apx{ρ:Type}(a:List Int)(b:List Int)(c:Bool)(k:(List Int)→Option ρ):aen a b c k=ai2 a b c k:=by unfold aen;rw[cu]

abbrev b6y(ρ:Type):=Int→(List Int)→Int→(List Int)→(List Int)→Int→Int→(List Int)→Int→Option ρ
def al8{ρ:Type}(a:Int)(b:List Int)(c:Int)(d e:List Int)(f g:Int)(h:List Int)(i:Int)(nx j:b6y ρ):Option ρ:=br (decide ((↑b.length:Int)≥a)) (br (decide (0≤a)) (br (decide (a≤(↑b.length:Int))) (aen d (Ad 0 (Ac a.toNat b)) (a==128) fun k=>br (decide (0≤a)) (br (decide (a≤(↑b.length:Int))) (br (decide ((↑b.length:Int)≤(↑b.length:Int))) (nx a (Ad a.toNat (Ac (↑b.length:Int).toNat b)) c k e f g h i) none) none) none) none) none) (j a b c d e f g h i)
abbrev bz1:=Int×(List Int)×Int×(List Int)×(List Int)×Int×Int×(List Int)×Int
abbrev b6p:=bz1
def b3t{ρ:Type}(f:bz1→Option ρ):b6y ρ:=fun i j a b c d e g h=>f (i,j,a,b,c,d,e,g,h)
def bw4{ρ:Type}:aej bz1 b6p ρ:=fun (h,i,a,b,c,d,e,f,g) next ex=>al8 h i a b c d e f g (b3t next) (b3t ex)
def b9m{ρ:Type}:=shut (lp (bw4 (ρ:=ρ)))
theorem cee{ρ:Type}:b9m (ρ:=ρ)=lp bw4:=cu _
def b0z{ρ:Type}(f:aei bz1 b6p ρ)(i:Int)(j:List Int)(a:Int)(b c:List Int)(d e:Int)(g:List Int)(h:Int)(k:b6y ρ):Option ρ:=f (i,j,a,b,c,d,e,g,h) (fun (i,j,a,b,c,d,e,g,h)=>k i j a b c d e g h)
def avl{ρ:Type}:=b0z (lp (bw4 (ρ:=ρ)))
def ap6{ρ:Type}:=b0z (b9m (ρ:=ρ))
theorem auy{ρ:Type}:ap6 (ρ:=ρ)=avl:=congrArg b0z cee
def ars{ρ:Type}(a:Int)(c b:List Int)(d:Int)(e:List Int)(k:Int→(List Int)→(List Int)→Int→Option ρ):Option ρ:=aaw a fun f=>oh [b,e] fun g=>ap6 f g a c b (Ab.wrap (d+Ab.wrap (↑e.length:Int))) 0 [0,0,0,0,0,0,0,0] 0 fun n h i j o l p q m=>k i j h l
def adk{ρ:Type}:=shut (ars (ρ:=ρ))
theorem bdx{ρ:Type}(b:Int)(a:List Int)(c:List Int)(d:Int)(e:List Int)(k:Int→(List Int)→(List Int)→Int→Option ρ):adk b a c d e k=ars b a c d e k:=by unfold adk;rw[cu]

abbrev bv6(ρ:Type):=Int→Int→(List Int)→Int→(List Int)→(List Int)→Int→Option ρ
def avi{ρ:Type}(c g:Int)(b:List Int)(d:Int)(e a:List Int)(f:Int)(nx h:bv6 ρ):Option ρ:=br (decide (c=0)) none (br ((Aa.wrap ((↑a.length:Int)+(↑b.length:Int))).tmod c !=Aa.wrap (c-8)) (br (decide ((b.length+1)*1≤140737488355328)) (nx c g (b++[0]) d e a f) none) (h c g b d e a f))
abbrev bzm:=Int×Int×(List Int)×Int×(List Int)×(List Int)×Int
abbrev b7z:=bzm
def b7e{ρ:Type}(f:bzm→Option ρ):bv6 ρ:=fun g h e a b c d=>f (g,h,e,a,b,c,d)
def bz5{ρ:Type}:aej bzm b7z ρ:=fun (f,g,e,a,b,c,d) next ex=>avi f g e a b c d (b7e next) (b7e ex)
def b5s{ρ:Type}:=shut (lp (bz5 (ρ:=ρ)))
theorem ceq{ρ:Type}:b5s (ρ:=ρ)=lp bz5:=cu _
def b4h{ρ:Type}(f:aei bzm b7z ρ)(g h:Int)(e:List Int)(a:Int)(b c:List Int)(d:Int)(i:bv6 ρ):Option ρ:=f (g,h,e,a,b,c,d) (fun (g,h,e,a,b,c,d)=>i g h e a b c d)
def bc6{ρ:Type}:=b4h (lp (bz5 (ρ:=ρ)))
def avb{ρ:Type}:=b4h (b5s (ρ:=ρ))
theorem beh{ρ:Type}:avb (ρ:=ρ)=bc6:=congrArg b4h ceq
abbrev zc60(ρ:Type):=Int→Int→(List Int)→Int→(List Int)→(List Int)→Int→Option ρ
def av1{ρ:Type}(c g:Int)(b:List Int)(d:Int)(e a:List Int)(f:Int)(nx h:bv6 ρ):Option ρ:=br (decide (c=0)) none (br ((Aa.wrap ((↑a.length:Int)+(↑b.length:Int))).tmod c !=Aa.wrap (c-16)) (br (decide ((b.length+1)*1≤140737488355328)) (nx c g (b++[0]) d e a f) none) (h c g b d e a f))
abbrev bzp:=Int×Int×(List Int)×Int×(List Int)×(List Int)×Int
abbrev b5i:=bzp
def ca9{ρ:Type}(f:bzp→Option ρ):zc60 ρ:=fun g h e a b c d=>f (g,h,e,a,b,c,d)
def b06{ρ:Type}:aej bzp b5i ρ:=fun (f,g,e,a,b,c,d) next ex=>av1 f g e a b c d (ca9 next) (ca9 ex)
def cb6{ρ:Type}:=shut (lp (b06 (ρ:=ρ)))
theorem ccv{ρ:Type}:cb6 (ρ:=ρ)=lp b06:=cu _
def b4c{ρ:Type}(f:aei bzp b5i ρ)(g h:Int)(e:List Int)(a:Int)(b c:List Int)(d:Int)(i:bv6 ρ):Option ρ:=f (g,h,e,a,b,c,d) (fun (g,h,e,a,b,c,d)=>i g h e a b c d)
def bdn{ρ:Type}:=b4c (lp (b06 (ρ:=ρ)))
def av6{ρ:Type}:=b4c (cb6 (ρ:=ρ))
theorem be3{ρ:Type}:av6 (ρ:=ρ)=bdn:=congrArg b4c ccv
abbrev zc61(ρ:Type):=Int→Int→(List Int)→Int→(List Int)→(List Int)→Int→Option ρ
def asu{ρ:Type}(g c:Int)(a:List Int)(d:Int)(b e:List Int)(f:Int)(nx i:bv6 ρ):Option ρ:=br (decide (c<8)) (br (decide (0≤c)) (br (decide (c<(↑8:Int))) (aay (b.getD c.toNat 0) (Aa.wrap (g.tdiv 16)) fun h=>br (decide ((a.length+h.length)*1≤140737488355328)) (nx g (Aa.wrap (c+1)) (a++h) d b e f) none) none) none) (i g c a d b e f)
abbrev b0u:=Int×Int×(List Int)×Int×(List Int)×(List Int)×Int
abbrev b9f:=b0u
def b41{ρ:Type}(f:b0u→Option ρ):zc61 ρ:=fun g h a b c d e=>f (g,h,a,b,c,d,e)
def bxe{ρ:Type}:aej b0u b9f ρ:=fun (f,g,a,b,c,d,e) next ex=>asu f g a b c d e (b41 next) (b41 ex)
def b7p{ρ:Type}:=shut (lp (bxe (ρ:=ρ)))
theorem ccx{ρ:Type}:b7p (ρ:=ρ)=lp bxe:=cu _
def b4k{ρ:Type}(f:aei b0u b9f ρ)(g h:Int)(a:List Int)(b:Int)(c d:List Int)(e:Int)(i:bv6 ρ):Option ρ:=f (g,h,a,b,c,d,e) (fun (g,h,a,b,c,d,e)=>i g h a b c d e)
def aza{ρ:Type}:=b4k (lp (bxe (ρ:=ρ)))
def am1{ρ:Type}:=b4k (b7p (ρ:=ρ))
theorem bbr{ρ:Type}:am1 (ρ:=ρ)=aza:=congrArg b4k ccx
def aso{ρ:Type}(a:Int)(c d:List Int)(b:Int)(k:(List Int)→Option ρ):Option ρ:=aaw a fun J=>avb J (Ab.wrap (b*8)) [128] a c d b fun m n o p q r s=>br (m==128) (av6 m n [128] p q r s fun M N e t u v i=>aay (i.fdiv (2^61)) 8 fun f=>br (decide ((e.length+f.length)*1≤140737488355328)) (aay N 8 fun j=>br (decide (((e++f).length+j.length)*1≤140737488355328)) (adk t u v i (e++f++j) fun w y z A=>am1 M 0 [] w y z A fun O Q g B U W Z=>br (B==2) (br (decide (48≤(↑g.length:Int))) (k (Ac ((48:Int)-(0:Int)).toNat g)) none) (k g)) none) none) (aay n 8 fun l=>br (decide ((o.length+l.length)*1≤140737488355328)) (adk p q r s (o++l) fun C F G H=>am1 m 0 [] C F G H fun aa ab h I ac ad ae=>br (I==2) (br (decide (48≤(↑h.length:Int))) (k (Ac ((48:Int)-(0:Int)).toNat h)) none) (k h)) none)
def aj2{ρ:Type}:=shut (aso (ρ:=ρ))
theorem bb7{ρ:Type}(b:Int)(a:List Int)(c:List Int)(d:Int)(k:(List Int)→Option ρ):aj2 b a c d k=aso b a c d k:=by unfold aj2;rw[cu]

def asr{ρ:Type}(b:Int)(c:List Int)(k:(List Int)→Int→Option ρ):Option ρ:=aju b fun d e f g a=>br (a !=0) (k [] a) (adk d e f g c fun h i j l=>aj2 h i j l fun m=>k m 0)
def afn{ρ:Type}:=shut (asr (ρ:=ρ))
theorem bea{ρ:Type}(a:Int)(b:List Int)(k:(List Int)→Int→Option ρ):afn a b k=asr a b k:=by unfold afn;rw[cu]

def amr{ρ:Type}(a:List Int)(k:(List Int)→Option ρ):Option ρ:=oh [Ac 1 (Ad 3 a),Ac 8 (Ad 8 a),Ac 1 (Ad 19 a),Ac 12 (Ad 20 a)] fun b=>k b
def aa6{ρ:Type}:=shut (amr (ρ:=ρ))
theorem axa{ρ:Type}(a:List Int)(k:(List Int)→Option ρ):aa6 a k=amr a k:=by unfold aa6;rw[cu]

def asn{ρ:Type}(a h i j l:Int)(b:Bool)(c e d:List Int)(k:(List Int)→Option ρ):Option ρ:=br ((↑c.length:Int) !=a) (k []) (om a h i j l b fun p=>br (!p) (k []) (br b (oh [c,Ac 32 (Ad 0 e),d] fun q=>akb 7 q a fun r z=>k r) (br (decide (a>16)) (br (decide ((↑d.length:Int)>a)) (br (decide (0≤Aa.wrap (128-a))) (br (decide (Aa.wrap (128-a)≤Aa.wrap (128-a))) (br (decide (Aa.wrap (128-a)*(↑1:Int)≤(↑140737488355328:Int))) (aa6 e fun s=>oh [c,Af (Aa.wrap (128-a)).toNat (0:Int),s,d] fun t=>afn 3 t fun m A=>br (decide (0≤a)) (br (decide (a≤(↑m.length:Int))) (k (Ac (a-0).toNat (Ad 0 m))) none) none) none) none) none) (br (decide (0≤Aa.wrap (64-a))) (br (decide (Aa.wrap (64-a)≤Aa.wrap (64-a))) (br (decide (Aa.wrap (64-a)*(↑1:Int)≤(↑140737488355328:Int))) (aa6 e fun u=>oh [c,Af (Aa.wrap (64-a)).toNat (0:Int),u,d] fun v=>afn 1 v fun f w=>br (decide (0≤a)) (br (decide (a≤(↑f.length:Int))) (k (Ac (a-0).toNat (Ad 0 f))) none) none) none) none) none)) (br (decide (0≤Aa.wrap (64-a))) (br (decide (Aa.wrap (64-a)≤Aa.wrap (64-a))) (br (decide (Aa.wrap (64-a)*(↑1:Int)≤(↑140737488355328:Int))) (aa6 e fun n=>oh [c,Af (Aa.wrap (64-a)).toNat (0:Int),n,d] fun o=>afn 1 o fun g y=>br (decide (0≤a)) (br (decide (a≤(↑g.length:Int))) (k (Ac (a-0).toNat (Ad 0 g))) none) none) none) none) none))))
def aai{ρ:Type}:=shut (asn (ρ:=ρ))
theorem bcw{ρ:Type}(b:Int)(c:Int)(d:Int)(e:Int)(f:Int)(a:Bool)(g:List Int)(h:List Int)(i:List Int)(k:(List Int)→Option ρ):aai b c d e f a g h i k=asn b c d e f a g h i k:=by unfold aai;rw[cu]

abbrev b9n(ρ:Type):=(List Int)→Int→(List Int)→Int→Int→Int→Int→Int→Int→Bool→(List Int)→Option ρ
def ape{ρ:Type}(k:List Int)(i:Int)(j:List Int)(h a b c d e:Int)(f:Bool)(g:List Int)(nx l:b9n ρ):Option ρ:=br (decide (h<i)) (j5 g 5 (Ab.wrap h) fun m=>aai a b c d e f j m k fun n=>nx n i j (Ae.wrap (h+1)) a b c d e f g) (l k i j h a b c d e f g)
abbrev b2z:=(List Int)×Int×(List Int)×Int×Int×Int×Int×Int×Int×Bool×(List Int)
abbrev cck:=b2z
def b93{ρ:Type}(f:b2z→Option ρ):b9n ρ:=fun j k l i a b c d e g h=>f (j,k,l,i,a,b,c,d,e,g,h)
def byj{ρ:Type}:aej b2z cck ρ:=fun (i,j,k,h,a,b,c,d,e,f,g) next ex=>ape i j k h a b c d e f g (b93 next) (b93 ex)
def b6t{ρ:Type}:=shut (lp (byj (ρ:=ρ)))
theorem cd5{ρ:Type}:b6t (ρ:=ρ)=lp byj:=cu _
def b38{ρ:Type}(f:aei b2z cck ρ)(j:List Int)(k:Int)(l:List Int)(i a b c d e:Int)(g:Bool)(h:List Int)(m:b9n ρ):Option ρ:=f (j,k,l,i,a,b,c,d,e,g,h) (fun (j,k,l,i,a,b,c,d,e,g,h)=>m j k l i a b c d e g h)
def axb{ρ:Type}:=b38 (lp (byj (ρ:=ρ)))
def awo{ρ:Type}:=b38 (b6t (ρ:=ρ))
theorem az7{ρ:Type}:awo (ρ:=ρ)=axb:=congrArg b38 cd5
def amo{ρ:Type}(b c d e f:Int)(a:Bool)(g:List Int)(h i:Int)(j l:List Int)(k:(List Int)→Option ρ):Option ρ:=awo g i j h b c d e f a l fun m o p q r s t u v w n=>k m
def adl{ρ:Type}:=shut (amo (ρ:=ρ))
theorem aww{ρ:Type}(b:Int)(c:Int)(d:Int)(e:Int)(f:Int)(a:Bool)(g:List Int)(h:Int)(i:Int)(j:List Int)(l:List Int)(k:(List Int)→Option ρ):adl b c d e f a g h i j l k=amo b c d e f a g h i j l k:=by unfold adl;rw[cu]

def aov{ρ:Type}(b c d e f:Int)(a:Bool)(h g i:List Int)(k:(List Int)→Option ρ):Option ρ:=br ((↑g.length:Int) !=b) (k []) (aai b c d e f a h i g fun j=>k j)
def akj{ρ:Type}:=shut (aov (ρ:=ρ))
theorem azd{ρ:Type}(b:Int)(c:Int)(d:Int)(e:Int)(f:Int)(a:Bool)(g:List Int)(h:List Int)(i:List Int)(k:(List Int)→Option ρ):akj b c d e f a g h i k=aov b c d e f a g h i k:=by unfold akj;rw[cu]

def ao2{ρ:Type}(a:List Int)(k:Int→Option ρ):Option ρ:=aek (Ac 4 (Ad 20 a)) fun b=>k b
def ab6{ρ:Type}:=shut (ao2 (ρ:=ρ))
theorem ayl{ρ:Type}(a:List Int)(k:Int→Option ρ):ab6 a k=ao2 a k:=by unfold ab6;rw[cu]

def am4{ρ:Type}(b c d e f:Int)(a:Bool)(h i g:List Int)(j:Int)(k:(List Int)→Option ρ):Option ρ:=j5 g 2 5 fun l=>ab6 g fun m=>j5 l 3 m fun n=>j5 n 4 (Ab.wrap j) fun o=>akj b c d e f a i h o fun p=>k p
def acy{ρ:Type}:=shut (am4 (ρ:=ρ))
theorem aw4{ρ:Type}(b:Int)(c:Int)(d:Int)(e:Int)(f:Int)(a:Bool)(g:List Int)(h:List Int)(i:List Int)(j:Int)(k:(List Int)→Option ρ):acy b c d e f a g h i j k=am4 b c d e f a g h i j k:=by unfold acy;rw[cu]

def as1{ρ:Type}(b c d e f:Int)(a:Bool)(h:List (List Int))(i g:List Int)(k:(List Int)→Option ρ):Option ρ:=j5 g 2 1 fun j=>ab6 g fun l=>j5 j 3 l fun m=>oh h fun n=>aai b c d e f a i m n fun o=>k o
def aj7{ρ:Type}:=shut (as1 (ρ:=ρ))
theorem bb5{ρ:Type}(b:Int)(c:Int)(d:Int)(e:Int)(f:Int)(a:Bool)(g:List (List Int))(h:List Int)(i:List Int)(k:(List Int)→Option ρ):aj7 b c d e f a g h i k=as1 b c d e f a g h i k:=by unfold aj7;rw[cu]

end P
end
