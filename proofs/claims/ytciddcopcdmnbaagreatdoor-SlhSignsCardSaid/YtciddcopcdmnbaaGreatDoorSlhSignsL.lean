/-
  SlhSigns, part 12: lemmas for the law.
-/

import Derived.Test.YtciddcopcdmnbaaGreatDoorSlhSignsH
import Derived.Test.YtciddcopcdmnbaaGreatDoorSlhSignsI
import Derived.Test.YtciddcopcdmnbaaGreatDoorSlhSignsK
open Go.IntKind renaming i64 → Aa, u64 → Ab, u32 → Ae, u8 → Af
open List renaming take → Ac, drop → Ad

noncomputable section
open Go Go.Abs
set_option linter.unusedVariables false
namespace P

abbrev clt(ρ:Type):=Int→Int→(List Int)→Int→Int→Int→Int→Int→Bool→(List Int)→Int→Int→Int→Int→Int→Bool→(List Int)→(List Int)→Int→Int→Int→Int→Int→Bool→(List Int)→(List Int)→(List Int)→Option ρ
def af7{ρ:Type}(o b:Int)(f:List Int)(c p q d r:Int)(s:Bool)(a:List Int)(g h i j k:Int)(l:Bool)(m n:List Int)(t u v e w:Int)(y:Bool)(z A B:List Int)(nx F:clt ρ):Option ρ:=br (decide (b<o)) (br (decide (0≤b)) (br (decide (b<(↑B.length:Int))) (br (decide (e<0)) none (ug g h i j k l [] m n (bits BinOp.or Ab (Ab.wrap (Ab.wrap b*2^min e.toNat 64)) (Ab.wrap (B.getD b.toNat 0))) a fun C=>br (decide ((f.length+C.length)*1≤140737488355328)) (br (decide (0≤Aa.wrap (c*Aa.wrap (d+1)))) (br (decide (Aa.wrap (c*Aa.wrap (d+1))≤(↑a.length:Int))) (br (decide ((↑a.length:Int)≤(↑a.length:Int))) (nx o (Aa.wrap (b+1)) (f++C) c p q d r s (Ad (Aa.wrap (c*Aa.wrap (d+1))).toNat (Ac (↑a.length:Int).toNat a)) g h i j k l m n t u v e w y z A B) none) none) none) none)) none) none) (F o b f c p q d r s a g h i j k l m n t u v e w y z A B)
abbrev b7v:=Int×Int×(List Int)×Int×Int×Int×Int×Int×Bool×(List Int)×Int×Int×Int×Int×Int×Bool×(List Int)×(List Int)×Int×Int×Int×Int×Int×Bool×(List Int)×(List Int)×(List Int)
abbrev chf:=b7v
def ce8{ρ:Type}(f:b7v→Option ρ):clt ρ:=fun A B a b c d e g h i j k l m n o p q r s t u v w y z C=>f (A,B,a,b,c,d,e,g,h,i,j,k,l,m,n,o,p,q,r,s,t,u,v,w,y,z,C)
def ce2{ρ:Type}:ab5 b7v chf ρ:=fun (z,A,a,b,c,d,e,f,g,h,i,j,k,l,m,n,o,p,q,r,s,t,u,v,w,y,B) next ex=>af7 z A a b c d e f g h i j k l m n o p q r s t u v w y B (ce8 next) (ce8 ex)
def cnm{ρ:Type}:=shut (lp (ce2 (ρ:=ρ)))
theorem crk{ρ:Type}:cnm (ρ:=ρ)=lp ce2:=bg _
def cbc{ρ:Type}(f:ab6 b7v chf ρ)(A B:Int)(a:List Int)(b c d e g:Int)(h:Bool)(i:List Int)(j k l m n:Int)(o:Bool)(p q:List Int)(r s t u v:Int)(w:Bool)(y z C:List Int)(F:clt ρ):Option ρ:=f (A,B,a,b,c,d,e,g,h,i,j,k,l,m,n,o,p,q,r,s,t,u,v,w,y,z,C) (fun (A,B,a,b,c,d,e,g,h,i,j,k,l,m,n,o,p,q,r,s,t,u,v,w,y,z,C)=>F A B a b c d e g h i j k l m n o p q r s t u v w y z C)
def alc{ρ:Type}:=cbc (lp (ce2 (ρ:=ρ)))
def alv{ρ:Type}:=cbc (cnm (ρ:=ρ))
theorem arw{ρ:Type}:alv (ρ:=ρ)=alc:=congrArg cbc crk
def agr{ρ:Type}(b e f c d:Int)(a:Bool)(h i g j:List Int)(k:(List Int)→Option ρ):Option ρ:=ku b e f c d a fun v w=>jy b e f c d a fun y=>br (!y) (k []) (br ((↑g.length:Int) !=b) (k []) (br ((↑i.length:Int) !=w) (k []) (br ((↑h.length:Int) !=v) (k []) (jr i c d fun l=>alv (↑l.length:Int) 0 [] b e f c d a h b e f c d a g j b e f c d a g j l fun W Z z q7 q8 q9 A B C F m n o p q r s t G H I J M N O Q U=>qx m n o p q r [] s t z fun u=>k u))))
def p9{ρ:Type}:=shut (agr (ρ:=ρ))
theorem aox{ρ:Type}(b:Int)(c:Int)(d:Int)(e:Int)(f:Int)(a:Bool)(g:List Int)(h:List Int)(i:List Int)(j:List Int)(k:(List Int)→Option ρ):p9 b c d e f a g h i j k=agr b c d e f a g h i j k:=by unfold p9;rw[bg]

def ahf{ρ:Type}(c:List Int)(a b:Int)(k:(List Int)→Option ρ):Option ρ:=dz [0,0,0,0,0,0,0,0,0,0,0,0,0,0,0,0,0,0,0,0,0,0,0,0,0,0,0,0,0,0,0,0] 1 a fun d=>dz d 2 3 fun e=>dz e 3 b fun f=>k f
def o8{ρ:Type}:=shut (ahf (ρ:=ρ))
theorem aot{ρ:Type}(a:List Int)(b:Int)(c:Int)(k:(List Int)→Option ρ):o8 a b c k=ahf a b c k:=by unfold o8;rw[bg]

abbrev cm8(ρ:Type):=(List (List Int))→Int→Int→Int→Int→Int→Int→Int→Bool→Option ρ
def aud{ρ:Type}(h:List (List Int))(i g a b c d e:Int)(f:Bool)(nx j:cm8 ρ)(k:Bool→Int→Int→Int→Int→Int→Bool→Option ρ):Option ρ:=br (decide (g<i)) (br (decide (0≤g)) (br (decide (g<(↑h.length:Int))) (br ((↑(h.getD g.toNat []).length:Int) !=a) (k false a b c d e f) (nx h i (Aa.wrap (g+1)) a b c d e f)) none) none) (j h i g a b c d e f)
abbrev ceb:=(List (List Int))×Int×Int×Int×Int×Int×Int×Int×Bool
abbrev cgd:=((List (List Int))×Int×Int×Int×Int×Int×Int×Int×Bool) ⊕ (Bool×Int×Int×Int×Int×Int×Bool)
def cqf{ρ:Type}(f:ceb→Option ρ):cm8 ρ:=fun h i j a b c d e g=>f (h,i,j,a,b,c,d,e,g)
def ce0{ρ:Type}:ab5 ceb cgd ρ:=fun (g,h,i,a,b,c,d,e,f) next ex=>aud g h i a b c d e f (cqf next) (fun g h i a b c d e f=>ex (.inl (g,h,i,a,b,c,d,e,f))) (fun j a b c d e f=>ex (.inr (j,a,b,c,d,e,f)))
def cpl{ρ:Type}:=shut (lp (ce0 (ρ:=ρ)))
theorem cqi{ρ:Type}:cpl (ρ:=ρ)=lp ce0:=bg _
def cai{ρ:Type}(f:ab6 ceb cgd ρ)(h:List (List Int))(i j a b c d e:Int)(g:Bool)(k:cm8 ρ)(l:Bool→Int→Int→Int→Int→Int→Bool→Option ρ):Option ρ:=f (h,i,j,a,b,c,d,e,g) (Sum.elim (fun (h,i,j,a,b,c,d,e,g)=>k h i j a b c d e g) (fun x=>l x.1 x.2.1 x.2.2.1 x.2.2.2.1 x.2.2.2.2.1 x.2.2.2.2.2.1 x.2.2.2.2.2.2))
def bbq{ρ:Type}:=cai (lp (ce0 (ρ:=ρ)))
def bc5{ρ:Type}:=cai (cpl (ρ:=ρ))
theorem bf4{ρ:Type}:bc5 (ρ:=ρ)=bbq:=congrArg cai cqi
def ap2{ρ:Type}(b c d e f:Int)(a:Bool)(g:List (List Int))(k:Bool→Option ρ):Option ρ:=bc5 g (↑g.length:Int) 0 b c d e f a (fun w y z i j l m n o=>jy i j l m n o fun p=>k p) fun h q r s t u v=>k h
def qb{ρ:Type}:=shut (ap2 (ρ:=ρ))
theorem bdf{ρ:Type}(b:Int)(c:Int)(d:Int)(e:Int)(f:Int)(a:Bool)(g:List (List Int))(k:Bool→Option ρ):qb b c d e f a g k=ap2 b c d e f a g k:=by unfold qb;rw[bg]

def ald{ρ:Type}(c b d e f:Int)(a:Bool)(i j:Int)(k:Bool→Option ρ):Option ρ:=jh c b d e f a fun g=>br (decide (Aa.wrap (b-g)<0)) none (br (i.fdiv (2^min (Aa.wrap (b-g)).toNat 64)==0) (jh c b d e f a fun h=>br (decide (h<0)) none (k (j.fdiv (2^min h.toNat 64)==0))) (k false))
def mh{ρ:Type}:=shut (ald (ρ:=ρ))
theorem avk{ρ:Type}(b:Int)(c:Int)(d:Int)(e:Int)(f:Int)(a:Bool)(g:Int)(h:Int)(k:Bool→Option ρ):mh b c d e f a g h k=ald b c d e f a g h k:=by unfold mh;rw[bg]

def aeh{ρ:Type}(a r s t u:Int)(n:Bool)(v:Nat)(e:Int)(b:List Int)(o:Int)(m:Bool)(p f:Int)(c g:List Int)(h q i:Int)(d j:List Int)(l:Int)(k:Int→Option ρ):Option ρ:=k (Aa.wrap (Aa.wrap (2*a)+3))
def qd{ρ:Type}:=shut (aeh (ρ:=ρ))
theorem aj7{ρ:Type}(q:Int)(r:Int)(s:Int)(t:Int)(u:Int)(m:Bool)(v:Nat)(d:Int)(a:List Int)(n:Int)(l:Bool)(o:Int)(e:Int)(b:List Int)(f:List Int)(g:Int)(p:Int)(h:Int)(c:List Int)(i:List Int)(j:Int)(k:Int→Option ρ):qd q r s t u m v d a n l o e b f g p h c i j k=aeh q r s t u m v d a n l o e b f g p h c i j k:=by unfold qd;rw[bg]

abbrev cnl(ρ:Type):=Int→Int→Int→(List Int)→Option ρ
def anh{ρ:Type}(d b a:Int)(c:List Int)(nx e:cnl ρ):Option ρ:=br (decide (a<b)) (br (decide (0≤a)) (br (decide (a<(↑c.length:Int))) (nx (Ae.wrap (d-c.getD a.toNat 0)) b (Aa.wrap (a+1)) c) none) none) (e d b a c)
abbrev b7n:=Int×Int×Int×(List Int)
abbrev cli:=b7n
def cgg{ρ:Type}(f:b7n→Option ρ):cnl ρ:=fun c a b d=>f (c,a,b,d)
def cct{ρ:Type}:ab5 b7n cli ρ:=fun (c,a,b,d) next ex=>anh c a b d (cgg next) (cgg ex)
def cg5{ρ:Type}:=shut (lp (cct (ρ:=ρ)))
theorem csc{ρ:Type}:cg5 (ρ:=ρ)=lp cct:=bg _
def cdy{ρ:Type}(f:ab6 b7n cli ρ)(c a b:Int)(d:List Int)(e:cnl ρ):Option ρ:=f (c,a,b,d) (fun (c,a,b,d)=>e c a b d)
def au9{ρ:Type}:=cdy (lp (cct (ρ:=ρ)))
def adn{ρ:Type}:=cdy (cg5 (ρ:=ρ))
theorem az1{ρ:Type}:adn (ρ:=ρ)=au9:=congrArg cdy csc
def ala{ρ:Type}(a:Int)(c:List Int)(k:(List Int)→Option ρ):Option ρ:=br (a !=16) (br (a !=24) (br (a !=32) (k []) (br ((↑c.length:Int) !=a) (k []) (jr c 4 (Aa.wrap (2*a)) fun h=>adn (Ae.wrap (Aa.wrap (15*(↑h.length:Int)))) (↑h.length:Int) 0 h fun d o p j=>br (decide ((j.length+([bits BinOp.and Ae (d.fdiv ((2:Int)^4)) (15:Int),bits BinOp.and Ae d (15:Int)].length.add 0).succ)*4≤140737488355328)) (k (j++[d.fdiv (2^8),bits BinOp.and Ae (d.fdiv (2^4)) 15,bits BinOp.and Ae d 15])) none))) (br ((↑c.length:Int) !=a) (k []) (jr c 4 (Aa.wrap (2*a)) fun i=>adn (Ae.wrap (Aa.wrap (15*(↑i.length:Int)))) (↑i.length:Int) 0 i fun e q r l=>br (decide ((l.length+([bits BinOp.and Ae (e.fdiv ((2:Int)^4)) (15:Int),bits BinOp.and Ae e (15:Int)].length.add 0).succ)*4≤140737488355328)) (k (l++[e.fdiv (2^8),bits BinOp.and Ae (e.fdiv (2^4)) 15,bits BinOp.and Ae e 15])) none))) (br ((↑c.length:Int) !=a) (k []) (jr c 4 (Aa.wrap (2*a)) fun f=>adn (Ae.wrap (Aa.wrap (15*(↑f.length:Int)))) (↑f.length:Int) 0 f fun b m n g=>br (decide ((g.length+([bits BinOp.and Ae (b.fdiv ((2:Int)^4)) (15:Int),bits BinOp.and Ae b (15:Int)].length.add 0).succ)*4≤140737488355328)) (k (g++[b.fdiv (2^8),bits BinOp.and Ae (b.fdiv (2^4)) 15,bits BinOp.and Ae b 15])) none))
def yu{ρ:Type}:=shut (ala (ρ:=ρ))
theorem av2{ρ:Type}(a:Int)(b:List Int)(k:(List Int)→Option ρ):yu a b k=ala a b k:=by unfold yu;rw[bg]

abbrev cgw(ρ:Type):=(List Int)→Int→Int→Int→Int→Int→Int→Int→Bool→Nat→Int→(List Int)→Int→Bool→Int→Int→(List Int)→(List Int)→Int→Int→Int→(List Int)→(List Int)→Int→(List Int)→Option ρ
def afo{ρ:Type}(z:List Int)(y q r s t u v:Int)(w:Bool)(o:Nat)(a:Int)(b:List Int)(c:Int)(d:Bool)(e f:Int)(g h:List Int)(i j k:Int)(l m:List Int)(n:Int)(p:List Int)(nx B:cgw ρ):Option ρ:=br (decide (q<y)) (dz p 5 (Ab.wrap q) fun A=>br (decide (o=1)) (jq A z a b c d e fun C=>nx C y (Ae.wrap (q+1)) r s t u v w o a b c d e f g h i j k l m n p) (br (decide (o=2)) (jm A z f g h i j k l m n fun F=>nx F y (Ae.wrap (q+1)) r s t u v w o a b c d e f g h i j k l m n p) none)) (B z y q r s t u v w o a b c d e f g h i j k l m n p)
abbrev b7g:=(List Int)×Int×Int×Int×Int×Int×Int×Int×Bool×Nat×Int×(List Int)×Int×Bool×Int×Int×(List Int)×(List Int)×Int×Int×Int×(List Int)×(List Int)×Int×(List Int)
abbrev cnr:=b7g
def cjb{ρ:Type}(f:b7g→Option ρ):cgw ρ:=fun z A y p q r s t u v a b c d e g h i j k l m n o w=>f (z,A,y,p,q,r,s,t,u,v,a,b,c,d,e,g,h,i,j,k,l,m,n,o,w)
def ccp{ρ:Type}:ab5 b7g cnr ρ:=fun (y,z,w,o,p,q,r,s,t,u,a,b,c,d,e,f,g,h,i,j,k,l,m,n,v) next ex=>afo y z w o p q r s t u a b c d e f g h i j k l m n v (cjb next) (cjb ex)
def cox{ρ:Type}:=shut (lp (ccp (ρ:=ρ)))
theorem csb{ρ:Type}:cox (ρ:=ρ)=lp ccp:=bg _
def cds{ρ:Type}(f:ab6 b7g cnr ρ)(z:List Int)(A y p q r s t:Int)(u:Bool)(v:Nat)(a:Int)(b:List Int)(c:Int)(d:Bool)(e g:Int)(h i:List Int)(j k l:Int)(m n:List Int)(o:Int)(w:List Int)(B:cgw ρ):Option ρ:=f (z,A,y,p,q,r,s,t,u,v,a,b,c,d,e,g,h,i,j,k,l,m,n,o,w) (fun (z,A,y,p,q,r,s,t,u,v,a,b,c,d,e,g,h,i,j,k,l,m,n,o,w)=>B z A y p q r s t u v a b c d e g h i j k l m n o w)
def akc{ρ:Type}:=cds (lp (ccp (ρ:=ρ)))
def akh{ρ:Type}:=cds (cox (ρ:=ρ))
theorem ao0{ρ:Type}:akh (ρ:=ρ)=akc:=congrArg cds csb
def ael{ρ:Type}(q r s t u:Int)(m:Bool)(v:Nat)(d:Int)(a:List Int)(n:Int)(l:Bool)(o e:Int)(b f:List Int)(g p h:Int)(c i:List Int)(j:Int)(w y:List Int)(z A:Int)(k:(List Int)→Option ρ):Option ρ:=akh y A z q r s t u m v d a n l o e b f g p h c i j w fun B q1 q2 q3 q4 q5 q6 q7 q8 q9 C F G H I J M N O Q U W Z aa ab=>k B
def mo{ρ:Type}:=shut (ael (ρ:=ρ))
theorem akd{ρ:Type}(q:Int)(r:Int)(s:Int)(t:Int)(u:Int)(m:Bool)(v:Nat)(d:Int)(a:List Int)(n:Int)(l:Bool)(o:Int)(e:Int)(b:List Int)(f:List Int)(g:Int)(p:Int)(h:Int)(c:List Int)(i:List Int)(j:Int)(w:List Int)(y:List Int)(z:Int)(A:Int)(k:(List Int)→Option ρ):mo q r s t u m v d a n l o e b f g p h c i j w y z A k=ael q r s t u m v d a n l o e b f g p h c i j w y z A k:=by unfold mo;rw[bg]

def ak9{ρ:Type}(b:List Int)(a:Int)(k:Int→Option ρ):Option ρ:=br (decide (0≤Aa.wrap (8+Aa.wrap (4*a)))) (br (decide (Aa.wrap (8+Aa.wrap (4*a))≤Aa.wrap (12+Aa.wrap (4*a)))) (br (decide (Aa.wrap (12+Aa.wrap (4*a))≤(↑32:Int))) (wz (Ac (Aa.wrap (12+Aa.wrap (4*a))-Aa.wrap (8+Aa.wrap (4*a))).toNat (Ad (Aa.wrap (8+Aa.wrap (4*a))).toNat b)) fun c=>k c) none) none) none
def yw{ρ:Type}:=shut (ak9 (ρ:=ρ))
theorem avc{ρ:Type}(a:List Int)(b:Int)(k:Int→Option ρ):yw a b k=ak9 a b k:=by unfold yw;rw[bg]

def af3{ρ:Type}(r s t u v:Int)(q:Bool)(n:Nat)(d:Int)(a:List Int)(m:Int)(l:Bool)(o e:Int)(b f:List Int)(g p h:Int)(c i:List Int)(j:Int)(w y:List Int)(k:(List Int)→Option ρ):Option ρ:=dz y 2 1 fun A=>yw y 3 fun B=>dz A 3 B fun z=>br (decide (n=1)) (jq z w d a m l o fun C=>k C) (br (decide (n=2)) (jm z w e b f g p h c i j fun F=>k F) none)
def uw{ρ:Type}:=shut (af3 (ρ:=ρ))
theorem amw{ρ:Type}(q:Int)(r:Int)(s:Int)(t:Int)(u:Int)(m:Bool)(v:Nat)(d:Int)(a:List Int)(n:Int)(l:Bool)(o:Int)(e:Int)(b:List Int)(f:List Int)(g:Int)(p:Int)(h:Int)(c:List Int)(i:List Int)(j:Int)(w:List Int)(y:List Int)(k:(List Int)→Option ρ):uw q r s t u m v d a n l o e b f g p h c i j w y k=af3 q r s t u m v d a n l o e b f g p h c i j w y k:=by unfold uw;rw[bg]

abbrev cht(ρ:Type):=(List Int)→Int→Int→(List Int)→Int→Int→Int→Int→Int→Bool→(List Int)→Int→Int→Int→Int→Int→Bool→Nat→Int→(List Int)→Int→Bool→Int→Int→(List Int)→(List Int)→Int→Int→Int→(List Int)→(List Int)→Int→(List Int)→Option ρ
def aiy{ρ:Type}(q:List Int)(A p:Int)(J:List Int)(a B C F G:Int)(H:Bool)(r:List Int)(s t u v w:Int)(y:Bool)(z:Nat)(b:Int)(c:List Int)(d:Int)(e:Bool)(f g:Int)(h i:List Int)(j k l:Int)(m n:List Int)(o:Int)(I:List Int)(nx N:cht ρ):Option ρ:=br (decide (p<A)) (br (decide (0≤p)) (br (decide (p<(↑I.length:Int))) (dz r 4 (Ab.wrap p) fun O=>br (decide (0≤a)) (br (decide (a≤(↑q.length:Int))) (mo s t u v w y z b c d e f g h i j k l m n o O (Ad 0 (Ac a.toNat q)) (I.getD p.toNat 0) 15 fun M=>br (decide ((J.length+M.length)*1≤140737488355328)) (br (decide (0≤a)) (br (decide (a≤(↑q.length:Int))) (br (decide ((↑q.length:Int)≤(↑q.length:Int))) (nx (Ad a.toNat (Ac (↑q.length:Int).toNat q)) A (Aa.wrap (p+1)) (J++M) a B C F G H r s t u v w y z b c d e f g h i j k l m n o I) none) none) none) none) none) none) none) none) (N q A p J a B C F G H r s t u v w y z b c d e f g h i j k l m n o I)
abbrev b7f:=(List Int)×Int×Int×(List Int)×Int×Int×Int×Int×Int×Bool×(List Int)×Int×Int×Int×Int×Int×Bool×Nat×Int×(List Int)×Int×Bool×Int×Int×(List Int)×(List Int)×Int×Int×Int×(List Int)×(List Int)×Int×(List Int)
abbrev cm4:=b7f
def ch3{ρ:Type}(f:b7f→Option ρ):cht ρ:=fun I G H J p q r s t u v w y z A B C F a b c d e g h i j k l m n o M=>f (I,G,H,J,p,q,r,s,t,u,v,w,y,z,A,B,C,F,a,b,c,d,e,g,h,i,j,k,l,m,n,o,M)
def cew{ρ:Type}:ab5 b7f cm4 ρ:=fun (H,F,G,I,o,p,q,r,s,t,u,v,w,y,z,A,B,C,a,b,c,d,e,f,g,h,i,j,k,l,m,n,J) next ex=>aiy H F G I o p q r s t u v w y z A B C a b c d e f g h i j k l m n J (ch3 next) (ch3 ex)
def cni{ρ:Type}:=shut (lp (cew (ρ:=ρ)))
theorem cr9{ρ:Type}:cni (ρ:=ρ)=lp cew:=bg _
def ca4{ρ:Type}(f:ab6 b7f cm4 ρ)(I:List Int)(G H:Int)(J:List Int)(p q r s t:Int)(u:Bool)(v:List Int)(w y z A B:Int)(C:Bool)(F:Nat)(a:Int)(b:List Int)(c:Int)(d:Bool)(e g:Int)(h i:List Int)(j k l:Int)(m n:List Int)(o:Int)(M:List Int)(N:cht ρ):Option ρ:=f (I,G,H,J,p,q,r,s,t,u,v,w,y,z,A,B,C,F,a,b,c,d,e,g,h,i,j,k,l,m,n,o,M) (fun (I,G,H,J,p,q,r,s,t,u,v,w,y,z,A,B,C,F,a,b,c,d,e,g,h,i,j,k,l,m,n,o,M)=>N I G H J p q r s t u v w y z A B C F a b c d e g h i j k l m n o M)
def aom{ρ:Type}:=ca4 (lp (cew (ρ:=ρ)))
def aoi{ρ:Type}:=ca4 (cni (ρ:=ρ))
theorem auz{ρ:Type}:aoi (ρ:=ρ)=aom:=congrArg ca4 cr9
def agz{ρ:Type}(a c d e f:Int)(b:Bool)(t u a3 a4:List Int)(k:(List Int)→Option ρ):Option ρ:=xw a c d e f b a3 fun v w y z A B C F G H g h i j l m n o p q r I=>br (!I) (k []) (br ((↑u.length:Int) !=a) (k []) (qd v w y z A B C F G H g h i j l m n o p q r fun J=>br ((↑t.length:Int) !=Aa.wrap (a*J)) (k []) (yu a u fun s=>aoi t (↑s.length:Int) 0 [] a c d e f b a4 v w y z A B C F G H g h i j l m n o p q r s fun ar au av M aw ax ay az a0 a5 N O Q U W Z aa ab ac ad ae af ag ah ai aj ak al am an ao ap a6=>uw O Q U W Z aa ab ac ad ae af ag ah ai aj ak al am an ao ap M N fun aq=>k aq)))
def yh{ρ:Type}:=shut (agz (ρ:=ρ))
theorem aok{ρ:Type}(b:Int)(c:Int)(d:Int)(e:Int)(f:Int)(a:Bool)(g:List Int)(h:List Int)(i:List Int)(j:List Int)(k:(List Int)→Option ρ):yh b c d e f a g h i j k=agz b c d e f a g h i j k:=by unfold yh;rw[bg]

def ahj{ρ:Type}(d e f g h:Int)(a:Bool)(c i b:List Int)(j:Int)(k:(List Int)→Option ρ):Option ρ:=dz b 2 0 fun l=>dz l 3 j fun m=>k m
def qy{ρ:Type}:=shut (ahj (ρ:=ρ))
theorem aoa{ρ:Type}(c:Int)(d:Int)(e:Int)(f:Int)(g:Int)(a:Bool)(b:List Int)(h:List Int)(i:List Int)(j:Int)(k:(List Int)→Option ρ):qy c d e f g a b h i j k=ahj c d e f g a b h i j k:=by unfold qy;rw[bg]

def ahu{ρ:Type}(b c d e f:Int)(a:Bool)(i g h:List Int)(j l:Int)(m n:List Int)(k:(List Int)→Option ρ):Option ρ:=dz h 2 2 fun o=>dz o 4 (Ab.wrap j) fun p=>dz p 5 l fun q=>jc [m,n] fun r=>zk b c d e f a g q r fun s=>k s
def u6{ρ:Type}:=shut (ahu (ρ:=ρ))
theorem aop{ρ:Type}(c:Int)(d:Int)(e:Int)(f:Int)(g:Int)(a:Bool)(b:List Int)(h:List Int)(i:List Int)(j:Int)(l:Int)(m:List Int)(n:List Int)(k:(List Int)→Option ρ):u6 c d e f g a b h i j l m n k=ahu c d e f g a b h i j l m n k:=by unfold u6;rw[bg]

abbrev ck6(ρ:Type):=Int→(List Int)→(List Int)→Int→Int→Int→Int→Int→Int→Int→Bool→Int→Int→Int→Int→Int→Bool→(List Int)→(List Int)→Option ρ
def aiq{ρ:Type}(r:Int)(s b:List Int)(q c a l m n o:Int)(p:Bool)(d e f g h:Int)(i:Bool)(j k:List Int)(nx t:ck6 ρ):Option ρ:=br (decide (c<q)) (br (decide ((0:Int)≤a)) (br (decide (a≤(↑b.length:Int))) (br (decide (c<(0:Int))) none (br (bits BinOp.and Ab (r.fdiv ((2:Int)^min c.toNat 64)) (1:Int)==(1:Int)) (br (decide (Aa.wrap (c+(1:Int))<(0:Int))) none (u6 d e f g h i [] j k (Aa.wrap (c+(1:Int))) (r.fdiv ((2:Int)^min (Aa.wrap (c+(1:Int))).toNat 64)) (Ad 0 (Ac a.toNat b)) s fun u=>br (decide ((0:Int)≤a)) (br (decide (a≤(↑b.length:Int))) (br (decide ((↑b.length:Int)≤(↑b.length:Int))) (nx r u (Ad a.toNat (Ac (↑b.length:Int).toNat b)) q (Aa.wrap (c+(1:Int))) a l m n o p d e f g h i j k) none) none) none)) (br (decide (Aa.wrap (c+(1:Int))<(0:Int))) none (u6 d e f g h i [] j k (Aa.wrap (c+(1:Int))) (r.fdiv ((2:Int)^min (Aa.wrap (c+(1:Int))).toNat 64)) s (Ad 0 (Ac a.toNat b)) fun v=>br (decide ((0:Int)≤a)) (br (decide (a≤(↑b.length:Int))) (br (decide ((↑b.length:Int)≤(↑b.length:Int))) (nx r v (Ad a.toNat (Ac (↑b.length:Int).toNat b)) q (Aa.wrap (c+(1:Int))) a l m n o p d e f g h i j k) none) none) none)))) none) none) (t r s b q c a l m n o p d e f g h i j k)
abbrev b9m:=Int×(List Int)×(List Int)×Int×Int×Int×Int×Int×Int×Int×Bool×Int×Int×Int×Int×Int×Bool×(List Int)×(List Int)
abbrev coc:=b9m
def cl4{ρ:Type}(f:b9m→Option ρ):ck6 ρ:=fun t p q r s a b c d e g h i j k l m n o=>f (t,p,q,r,s,a,b,c,d,e,g,h,i,j,k,l,m,n,o)
def cc9{ρ:Type}:ab5 b9m coc ρ:=fun (s,o,p,q,r,a,b,c,d,e,f,g,h,i,j,k,l,m,n) next ex=>aiq s o p q r a b c d e f g h i j k l m n (cl4 next) (cl4 ex)
def ch4{ρ:Type}:=shut (lp (cc9 (ρ:=ρ)))
theorem cqa{ρ:Type}:ch4 (ρ:=ρ)=lp cc9:=bg _
def cdk{ρ:Type}(f:ab6 b9m coc ρ)(t:Int)(p q:List Int)(r s a b c d e:Int)(g:Bool)(h i j k l:Int)(m:Bool)(n o:List Int)(u:ck6 ρ):Option ρ:=f (t,p,q,r,s,a,b,c,d,e,g,h,i,j,k,l,m,n,o) (fun (t,p,q,r,s,a,b,c,d,e,g,h,i,j,k,l,m,n,o)=>u t p q r s a b c d e g h i j k l m n o)
def aog{ρ:Type}:=cdk (lp (cc9 (ρ:=ρ)))
def an6{ρ:Type}:=cdk (ch4 (ρ:=ρ))
theorem auv{ρ:Type}:an6 (ρ:=ρ)=aog:=congrArg cdk cqa
def agw{ρ:Type}(b c d e f:Int)(a:Bool)(g l i m:List Int)(j:Int)(k:(List Int)→Option ρ):Option ρ:=qb b c d e f a [i,l] fun o=>br (!o) (k []) (qh b c d e f a fun p=>br ((↑g.length:Int) !=p) (k []) (jh b c d e f a fun n=>br (decide (n<0)) none (br (j.fdiv (2^min n.toNat 64) !=0) (k []) (jh b c d e f a fun h=>br (decide (0≤Aa.wrap ((↑g.length:Int)-Aa.wrap (b*h)))) (br (decide (Aa.wrap ((↑g.length:Int)-Aa.wrap (b*h))≤(↑g.length:Int))) (qy b c d e f a [] i m j fun q=>yh b c d e f a (Ad 0 (Ac (Aa.wrap ((↑g.length:Int)-Aa.wrap (b*h))).toNat g)) l i q fun r=>br (decide (0≤Aa.wrap ((↑g.length:Int)-Aa.wrap (b*h)))) (br (decide (Aa.wrap ((↑g.length:Int)-Aa.wrap (b*h))≤(↑g.length:Int))) (br (decide ((↑g.length:Int)≤(↑g.length:Int))) (jh b c d e f a fun s=>an6 j r (Ad (Aa.wrap ((↑g.length:Int)-Aa.wrap (b*h))).toNat (Ac (↑g.length:Int).toNat g)) s 0 b c d e f a b c d e f a i m fun Q t U u v w y z A B C F G H I J M N O=>k t) none) none) none) none) none))))
def ji{ρ:Type}:=shut (agw (ρ:=ρ))
theorem an4{ρ:Type}(b:Int)(c:Int)(d:Int)(e:Int)(f:Int)(a:Bool)(g:List Int)(h:List Int)(i:List Int)(j:List Int)(l:Int)(k:(List Int)→Option ρ):ji b c d e f a g h i j l k=agw b c d e f a g h i j l k:=by unfold ji;rw[bg]

abbrev cmx(ρ:Type):=(List Int)→(List Int)→Int→Int→Int→Option ρ
def asz{ρ:Type}(c d:List Int)(e b a:Int)(nx f:cmx ρ):Option ρ:=br (decide (a<b)) (br (decide (0≤a)) (br (decide (a<(↑c.length:Int))) (br (decide (0≤a)) (br (decide (a<(↑d.length:Int))) (nx c d (bits BinOp.or Af e (bits BinOp.xor Af (c.getD a.toNat 0) (d.getD a.toNat 0))) b (Aa.wrap (a+1))) none) none) none) none) (f c d e b a)
abbrev b9f:=(List Int)×(List Int)×Int×Int×Int
abbrev cka:=b9f
def cjw{ρ:Type}(f:b9f→Option ρ):cmx ρ:=fun c d e a b=>f (c,d,e,a,b)
def cer{ρ:Type}:ab5 b9f cka ρ:=fun (c,d,e,a,b) next ex=>asz c d e a b (cjw next) (cjw ex)
def co7{ρ:Type}:=shut (lp (cer (ρ:=ρ)))
theorem cpt{ρ:Type}:co7 (ρ:=ρ)=lp cer:=bg _
def cdr{ρ:Type}(f:ab6 b9f cka ρ)(c d:List Int)(e a b:Int)(g:cmx ρ):Option ρ:=f (c,d,e,a,b) (fun (c,d,e,a,b)=>g c d e a b)
def bcz{ρ:Type}:=cdr (lp (cer (ρ:=ρ)))
def bc6{ρ:Type}:=cdr (co7 (ρ:=ρ))
theorem bg2{ρ:Type}:bc6 (ρ:=ρ)=bcz:=congrArg cdr cpt
def ao5{ρ:Type}(a b:List Int)(k:Bool→Option ρ):Option ρ:=br ((↑a.length:Int) !=(↑b.length:Int)) (k false) (bc6 a b 0 (↑a.length:Int) 0 fun d e c f g=>k (c==0))
def aam{ρ:Type}:=shut (ao5 (ρ:=ρ))
theorem bc4{ρ:Type}(a:List Int)(b:List Int)(k:Bool→Option ρ):aam a b k=ao5 a b k:=by unfold aam;rw[bg]

abbrev cmy(ρ:Type):=(List Int)→Int→Int→Int→Int→Int→Int→Int→Bool→(List Int)→(List Int)→(List Int)→Int→Int→Int→Int→Int→Bool→Int→Int→Option ρ
def aj5{ρ:Type}(p:List Int)(t s b c d e f:Int)(g:Bool)(q a o:List Int)(h i j k l:Int)(m:Bool)(n r:Int)(nx z:cmy ρ):Option ρ:=br (decide (s<t)) (dz [0,0,0,0,0,0,0,0,0,0,0,0,0,0,0,0,0,0,0,0,0,0,0,0,0,0,0,0,0,0,0,0] 0 (Ab.wrap s) fun A=>dz A 1 n fun B=>qh b c d e f g fun u=>br (decide (0≤u)) (br (decide (u≤(↑a.length:Int))) (ji b c d e f g (Ad 0 (Ac u.toNat a)) q o B r fun C=>qh b c d e f g fun v=>br (decide (0≤v)) (br (decide (v≤(↑a.length:Int))) (br (decide ((↑a.length:Int)≤(↑a.length:Int))) (jh h i j k l m fun w=>br (decide (w<0)) none (jh h i j k l m fun y=>br (decide (y<0)) none (nx p t (Aa.wrap (s+1)) b c d e f g C (Ad v.toNat (Ac (↑a.length:Int).toNat a)) o h i j k l m (n.fdiv (2^min y.toNat 64)) (bits BinOp.and Ab n (Ab.wrap (Ab.wrap (1*2^min w.toNat 64)-1)))))) none) none) none) none) none) (z p t s b c d e f g q a o h i j k l m n r)
abbrev b78:=(List Int)×Int×Int×Int×Int×Int×Int×Int×Bool×(List Int)×(List Int)×(List Int)×Int×Int×Int×Int×Int×Bool×Int×Int
abbrev ckm:=b78
def cis{ρ:Type}(f:b78→Option ρ):cmy ρ:=fun a t u b c d e g h i j k l m n o p q r s=>f (a,t,u,b,c,d,e,g,h,i,j,k,l,m,n,o,p,q,r,s)
def cbf{ρ:Type}:ab5 b78 ckm ρ:=fun (a,s,t,b,c,d,e,f,g,h,i,j,k,l,m,n,o,p,q,r) next ex=>aj5 a s t b c d e f g h i j k l m n o p q r (cis next) (cis ex)
def clh{ρ:Type}:=shut (lp (cbf (ρ:=ρ)))
theorem cru{ρ:Type}:clh (ρ:=ρ)=lp cbf:=bg _
def cel{ρ:Type}(f:ab6 b78 ckm ρ)(a:List Int)(t u b c d e g:Int)(h:Bool)(i j k:List Int)(l m n o p:Int)(q:Bool)(r s:Int)(v:cmy ρ):Option ρ:=f (a,t,u,b,c,d,e,g,h,i,j,k,l,m,n,o,p,q,r,s) (fun (a,t,u,b,c,d,e,g,h,i,j,k,l,m,n,o,p,q,r,s)=>v a t u b c d e g h i j k l m n o p q r s)
def aqr{ρ:Type}:=cel (lp (cbf (ρ:=ρ)))
def aq0{ρ:Type}:=cel (clh (ρ:=ρ))
theorem awn{ρ:Type}:aq0 (ρ:=ρ)=aqr:=congrArg cel cru
def alq{ρ:Type}(c d b e f:Int)(a:Bool)(h i j g:List Int)(l m:Int)(k:Bool→Option ρ):Option ρ:=qb c d b e f a [h,j,g] fun p=>br (!p) (k false) (qh c d b e f a fun q=>br ((↑i.length:Int) !=Aa.wrap (b*q)) (k false) (mh c d b e f a l m fun r=>br (!r) (k false) (aq0 g b 0 c d b e f a h i j c d b e f a l m fun H I J M N O Q s t n u v w y z A B C F G=>aam n g fun o=>k o)))
def ab8{ρ:Type}:=shut (alq (ρ:=ρ))
theorem ave{ρ:Type}(b:Int)(c:Int)(d:Int)(e:Int)(f:Int)(a:Bool)(g:List Int)(h:List Int)(i:List Int)(j:List Int)(l:Int)(m:Int)(k:Bool→Option ρ):ab8 b c d e f a g h i j l m k=alq b c d e f a g h i j l m k:=by unfold ab8;rw[bg]

def am4{ρ:Type}(a d e f g:Int)(b:Bool)(h a2 n c:List Int)(k:Int→Option ρ):Option ρ:=adh a d e f g b fun q0 q1 q2=>jy a d e f g b fun q3=>br (!q3) (k 9) (br ((↑h.length:Int) !=Aa.wrap (2*a)) (k 10) (br (decide ((↑n.length:Int)>255)) (k 2) (br ((↑c.length:Int) !=q2) (k 1) (ku a d e f g b fun i q5=>br (decide (0≤a)) (br (decide (a≤(↑h.length:Int))) (br (decide (0≤a)) (br (decide (a≤(↑h.length:Int))) (br (decide ((↑h.length:Int)≤(↑h.length:Int))) (br (decide (0≤a)) (br (decide (a≤(↑c.length:Int))) (br (decide (0≤a)) (br (decide (a≤(↑c.length:Int))) (br (decide ((↑c.length:Int)≤(↑c.length:Int))) (acv a d e f g b fun q6 q7 q8 q9 o p q r s t u v w y z A B C F G H I J M N O Q U=>adl a2 n fun W=>qp q6 q7 q8 q9 o p q r s t u v w y z A B C F G H I J M N O Q U (Ad 0 (Ac a.toNat c)) h W fun j l m=>br (decide (0≤i)) (br (decide (i≤(↑(Ad a.toNat (Ac (↑c.length:Int).toNat c)).length:Int))) (o8 j l m fun Z=>p9 a d e f g b (Ad 0 (Ac i.toNat (Ad a.toNat (Ac (↑c.length:Int).toNat c)))) j (Ad 0 (Ac a.toNat h)) Z fun aa=>br (decide (0≤i)) (br (decide (i≤(↑(Ad a.toNat (Ac (↑c.length:Int).toNat c)).length:Int))) (br (decide ((↑(Ad a.toNat (Ac (↑c.length:Int).toNat c)).length:Int)≤(↑(Ad a.toNat (Ac (↑c.length:Int).toNat c)).length:Int))) (ab8 a d e f g b aa (Ad i.toNat (Ac (↑(Ad a.toNat (Ac (↑c.length:Int).toNat c)).length:Int).toNat (Ad a.toNat (Ac (↑c.length:Int).toNat c)))) (Ad 0 (Ac a.toNat h)) (Ad a.toNat (Ac (↑h.length:Int).toNat h)) l m fun ab=>br (!ab) (k 11) (k 0)) none) none) none) none) none) none) none) none) none) none) none) none) none) none) none))))
def ae8{ρ:Type}:=shut (am4 (ρ:=ρ))
theorem ay1{ρ:Type}(b:Int)(c:Int)(d:Int)(e:Int)(f:Int)(a:Bool)(g:List Int)(h:List Int)(i:List Int)(j:List Int)(k:Int→Option ρ):ae8 b c d e f a g h i j k=am4 b c d e f a g h i j k:=by unfold ae8;rw[bg]

def aw0{ρ:Type}(a:Int)(k:Int→Int→Int→Int→Int→Bool→Bool→Option ρ):Option ρ:=br (decide (a<(1:Int))) (k (0:Int) (0:Int) (0:Int) (0:Int) (0:Int) false false) (br (decide (a>(12:Int))) (k (0:Int) (0:Int) (0:Int) (0:Int) (0:Int) false false) (br (decide ((0:Int)≤Aa.wrap ((Aa.wrap (a-(1:Int))).tdiv (2:Int)))) (br (decide (Aa.wrap ((Aa.wrap (a-(1:Int))).tdiv (2:Int))<(↑6:Int))) (br (decide ((Aa.wrap ((Aa.wrap (a-(1:Int))).tdiv (2:Int))).toNat*5+5≤30)) (k ((Ac 5 (Ad ((Aa.wrap ((Aa.wrap (a-(1:Int))).tdiv (2:Int))).toNat*5) [(16:Int),(63:Int),(7:Int),(12:Int),(14:Int),(16:Int),(66:Int),(22:Int),(6:Int),(33:Int),(24:Int),(63:Int),(7:Int),(14:Int),(17:Int),(24:Int),(66:Int),(22:Int),(8:Int),(33:Int),(32:Int),(64:Int),(8:Int),(14:Int),(22:Int),(32:Int),(68:Int),(17:Int),(9:Int),(35:Int)])).getD 0 (0:Int)) ((Ac 5 (Ad ((Aa.wrap ((Aa.wrap (a-(1:Int))).tdiv (2:Int))).toNat*5) [(16:Int),(63:Int),(7:Int),(12:Int),(14:Int),(16:Int),(66:Int),(22:Int),(6:Int),(33:Int),(24:Int),(63:Int),(7:Int),(14:Int),(17:Int),(24:Int),(66:Int),(22:Int),(8:Int),(33:Int),(32:Int),(64:Int),(8:Int),(14:Int),(22:Int),(32:Int),(68:Int),(17:Int),(9:Int),(35:Int)])).getD 1 (0:Int)) ((Ac 5 (Ad ((Aa.wrap ((Aa.wrap (a-(1:Int))).tdiv (2:Int))).toNat*5) [(16:Int),(63:Int),(7:Int),(12:Int),(14:Int),(16:Int),(66:Int),(22:Int),(6:Int),(33:Int),(24:Int),(63:Int),(7:Int),(14:Int),(17:Int),(24:Int),(66:Int),(22:Int),(8:Int),(33:Int),(32:Int),(64:Int),(8:Int),(14:Int),(22:Int),(32:Int),(68:Int),(17:Int),(9:Int),(35:Int)])).getD 2 (0:Int)) ((Ac 5 (Ad ((Aa.wrap ((Aa.wrap (a-(1:Int))).tdiv (2:Int))).toNat*5) [(16:Int),(63:Int),(7:Int),(12:Int),(14:Int),(16:Int),(66:Int),(22:Int),(6:Int),(33:Int),(24:Int),(63:Int),(7:Int),(14:Int),(17:Int),(24:Int),(66:Int),(22:Int),(8:Int),(33:Int),(32:Int),(64:Int),(8:Int),(14:Int),(22:Int),(32:Int),(68:Int),(17:Int),(9:Int),(35:Int)])).getD 3 (0:Int)) ((Ac 5 (Ad ((Aa.wrap ((Aa.wrap (a-(1:Int))).tdiv (2:Int))).toNat*5) [(16:Int),(63:Int),(7:Int),(12:Int),(14:Int),(16:Int),(66:Int),(22:Int),(6:Int),(33:Int),(24:Int),(63:Int),(7:Int),(14:Int),(17:Int),(24:Int),(66:Int),(22:Int),(8:Int),(33:Int),(32:Int),(64:Int),(8:Int),(14:Int),(22:Int),(32:Int),(68:Int),(17:Int),(9:Int),(35:Int)])).getD 4 (0:Int)) (a.tmod (2:Int)==(0:Int)) true) none) none) none))
def apd{ρ:Type}:=shut (aw0 (ρ:=ρ))
theorem bk8{ρ:Type}(a:Int)(k:Int→Int→Int→Int→Int→Bool→Bool→Option ρ):apd a k=aw0 a k:=by unfold apd;rw[bg]

def aoz{ρ:Type}(k:Bool→Option ρ):Option ρ:=apd 3 fun a b c d e f h=>adh a b c d e f fun j l i=>br h (br (a==16&&(b==66&&(c==22&&(d==6&&(e==33&&(f==false&&true)))))) (br (i==17088) (ae8 a b c d e f [] [] [] [] fun g=>k (g==10)) (k false)) (k false)) (k false)
def aa7{ρ:Type}:=shut (aoz (ρ:=ρ))
theorem bb6{ρ:Type}  (k:Bool→Option ρ):aa7  k=aoz  k:=by unfold aa7;rw[bg]

abbrev cki(ρ:Type):=(List (List Int))→Int→Int→Option ρ
def aou{ρ:Type}(b:List (List Int))(c a:Int)(nx d:cki ρ)(e:Bool→Option ρ):Option ρ:=br (decide (a<c)) (br (decide (0≤a)) (br (decide (a<(↑b.length:Int))) (br (decide ((↑(b.getD a.toNat []).length:Int)>300)) (e false) (nx b c (Aa.wrap (a+1)))) none) none) (d b c a)
abbrev cb0:=(List (List Int))×Int×Int
abbrev cly:=((List (List Int))×Int×Int) ⊕ (Bool)
def cq1{ρ:Type}(f:cb0→Option ρ):cki ρ:=fun a b c=>f (a,b,c)
def cbl{ρ:Type}:ab5 cb0 cly ρ:=fun (a,b,c) next ex=>aou a b c (cq1 next) (fun a b c=>ex (.inl (a,b,c))) (fun d=>ex (.inr d))
def cgm{ρ:Type}:=shut (lp (cbl (ρ:=ρ)))
theorem cpw{ρ:Type}:cgm (ρ:=ρ)=lp cbl:=bg _
def ccf{ρ:Type}(f:ab6 cb0 cly ρ)(a:List (List Int))(b c:Int)(d:cki ρ)(e:Bool→Option ρ):Option ρ:=f (a,b,c) (Sum.elim (fun (a,b,c)=>d a b c) (fun x=>e x))
def bjo{ρ:Type}:=ccf (lp (cbl (ρ:=ρ)))
def bk3{ρ:Type}:=ccf (cgm (ρ:=ρ))
theorem blx{ρ:Type}:bk3 (ρ:=ρ)=bjo:=congrArg ccf cpw
def axl{ρ:Type}(a:List (List Int))(k:Bool→Option ρ):Option ρ:=bk3 a (↑a.length:Int) 0 (fun c d e=>k true) fun b=>k b
def ajx{ρ:Type}:=shut (axl (ρ:=ρ))
theorem bjd{ρ:Type}(a:List (List Int))(k:Bool→Option ρ):ajx a k=axl a k:=by unfold ajx;rw[bg]

abbrev ch8(ρ:Type):=(List Int)→(List Int)→Int→Option ρ
def ax1{ρ:Type}(b c:List Int)(a:Int)(nx d:ch8 ρ)(e:Bool→Option ρ):Option ρ:=br (decide (a<(↑b.length:Int))) (br (decide (0≤a)) (br (decide (a<(↑b.length:Int))) (br (decide (0≤a)) (br (decide (a<(↑c.length:Int))) (br (b.getD a.toNat 0 !=c.getD a.toNat 0) (e false) (nx b c (Aa.wrap (a+1)))) none) none) none) none) (d b c a)
abbrev cdt:=(List Int)×(List Int)×Int
abbrev cnx:=((List Int)×(List Int)×Int) ⊕ (Bool)
def crv{ρ:Type}(f:cdt→Option ρ):ch8 ρ:=fun a b c=>f (a,b,c)
def ccw{ρ:Type}:ab5 cdt cnx ρ:=fun (a,b,c) next ex=>ax1 a b c (crv next) (fun a b c=>ex (.inl (a,b,c))) (fun d=>ex (.inr d))
def cm9{ρ:Type}:=shut (lp (ccw (ρ:=ρ)))
theorem cp5{ρ:Type}:cm9 (ρ:=ρ)=lp ccw:=bg _
def ca5{ρ:Type}(f:ab6 cdt cnx ρ)(a b:List Int)(c:Int)(d:ch8 ρ)(e:Bool→Option ρ):Option ρ:=f (a,b,c) (Sum.elim (fun (a,b,c)=>d a b c) (fun x=>e x))
def bed{ρ:Type}:=ca5 (lp (ccw (ρ:=ρ)))
def bey{ρ:Type}:=ca5 (cm9 (ρ:=ρ))
theorem bie{ρ:Type}:bey (ρ:=ρ)=bed:=congrArg ca5 cp5
def ato{ρ:Type}(a b:List Int)(k:Bool→Option ρ):Option ρ:=br ((↑a.length:Int) !=(↑b.length:Int)) (k false) (bey a b 0 (fun d e f=>k true) fun c=>k c)
def ag5{ρ:Type}:=shut (ato (ρ:=ρ))
theorem bhc{ρ:Type}(a:List Int)(b:List Int)(k:Bool→Option ρ):ag5 a b k=ato a b k:=by unfold ag5;rw[bg]

def ajw{ρ:Type}(b c d e f:Int)(a:Bool)(g h i:List Int)(k:Int→Int→Int→Int→Int→Bool→(List Int)→(List Int)→(List Int)→Bool→Option ρ):Option ρ:=jy b c d e f a fun j=>br j (br ((↑g.length:Int)==b) (k b c d e f a g h i ((↑h.length:Int)==b)) (k b c d e f a g h i false)) (k b c d e f a g h i false)
def tu{ρ:Type}:=shut (ajw (ρ:=ρ))
theorem ar4{ρ:Type}(b:Int)(c:Int)(d:Int)(e:Int)(f:Int)(a:Bool)(g:List Int)(h:List Int)(i:List Int)(k:Int→Int→Int→Int→Int→Bool→(List Int)→(List Int)→(List Int)→Bool→Option ρ):tu b c d e f a g h i k=ajw b c d e f a g h i k:=by unfold tu;rw[bg]

def apw{ρ:Type}(b c d e f:Int)(a:Bool)(h g i:List Int)(k:(List Int)→Option ρ):Option ρ:=br ((↑g.length:Int) !=b) (k []) (zk b c d e f a h i g fun j=>k j)
def ajn{ρ:Type}:=shut (apw (ρ:=ρ))
theorem bdb{ρ:Type}(b:Int)(c:Int)(d:Int)(e:Int)(f:Int)(a:Bool)(g:List Int)(h:List Int)(i:List Int)(k:(List Int)→Option ρ):ajn b c d e f a g h i k=apw b c d e f a g h i k:=by unfold ajn;rw[bg]

def af2{ρ:Type}(c d e f g:Int)(a:Bool)(b h i:List Int)(j:Int)(k:(List Int)→Option ρ):Option ρ:=ny c d e f g a b h i 6 fun l=>dz l 5 j fun m=>ajn c d e f g a h b m fun n=>k n
def l6{ρ:Type}:=shut (af2 (ρ:=ρ))
theorem ams{ρ:Type}(c:Int)(d:Int)(e:Int)(f:Int)(g:Int)(a:Bool)(b:List Int)(h:List Int)(i:List Int)(j:Int)(k:(List Int)→Option ρ):l6 c d e f g a b h i j k=af2 c d e f g a b h i j k:=by unfold l6;rw[bg]

abbrev cnh(ρ:Type):=Int→Int→Int→Int→Nat→(List Int)→(List (List Int))→Int→Int→Int→Int→Int→Bool→(List Int)→(List Int)→(List Int)→Int→(List Int)→Option ρ
def agu{ρ:Type}(q r p a:Int)(c:Nat)(d:List Int)(e:List (List Int))(f g h i j:Int)(k:Bool)(l m n:List Int)(b:Int)(o:List Int)(nx s:cnh ρ):Option ρ:=br (decide (a>0)) (br (decide (0≤Aa.wrap (a-1))) (br (decide (Aa.wrap (a-1)<(↑c:Int))) (br (d.getD (Aa.wrap (a-1)).toNat 0==b) (br (decide (Aa.wrap (b+1)<0)) none (br (decide (0≤Aa.wrap (a-1))) (br (decide (Aa.wrap (a-1)<(↑c:Int))) (kr f g h i j k l m n (Aa.wrap (b+1)) (p.fdiv (2^min (Aa.wrap (b+1)).toNat 64)) [e.getD (Aa.wrap (a-1)).toNat [],o] fun t=>br (decide (0≤Aa.wrap (a-1))) (br (decide (Aa.wrap (a-1)≤(↑c:Int))) (nx q r p (↑(Aa.wrap (a-1)).toNat:Int) (min (Aa.wrap (a-1)).toNat c) (Ac (Aa.wrap (a-1)).toNat d) (Ac (Aa.wrap (a-1)).toNat e) f g h i j k l m n (Aa.wrap (b+1)) t) none) none) none) none)) (s q r p a c d e f g h i j k l m n b o)) none) none) (s q r p a c d e f g h i j k l m n b o)
abbrev b66:=Int×Int×Int×Int×Nat×(List Int)×(List (List Int))×Int×Int×Int×Int×Int×Bool×(List Int)×(List Int)×(List Int)×Int×(List Int)
abbrev ci9:=b66
def cmt{ρ:Type}(f:b66→Option ρ):cnh ρ:=fun q r s p a b c d e g h i j k l m n o=>f (q,r,s,p,a,b,c,d,e,g,h,i,j,k,l,m,n,o)
def cc5{ρ:Type}:ab5 b66 ci9 ρ:=fun (p,q,r,o,a,b,c,d,e,f,g,h,i,j,k,l,m,n) next ex=>agu p q r o a b c d e f g h i j k l m n (cmt next) (cmt ex)
def cfa{ρ:Type}:=shut (lp (cc5 (ρ:=ρ)))
theorem crb{ρ:Type}:cfa (ρ:=ρ)=lp cc5:=bg _
def ca3{ρ:Type}(f:ab6 b66 ci9 ρ)(q r s p:Int)(a:Nat)(b:List Int)(c:List (List Int))(d e g h i:Int)(j:Bool)(k l m:List Int)(n:Int)(o:List Int)(t:cnh ρ):Option ρ:=f (q,r,s,p,a,b,c,d,e,g,h,i,j,k,l,m,n,o) (fun (q,r,s,p,a,b,c,d,e,g,h,i,j,k,l,m,n,o)=>t q r s p a b c d e g h i j k l m n o)
def amv{ρ:Type}:=ca3 (lp (cc5 (ρ:=ρ)))
def ahh{ρ:Type}:=ca3 (cfa (ρ:=ρ))
theorem as3{ρ:Type}:ahh (ρ:=ρ)=amv:=congrArg ca3 crb
abbrev cgz(ρ:Type):=Int→Int→Int→Nat→(List Int)→(List (List Int))→Int→Int→Int→Int→Int→Bool→(List Int)→(List Int)→(List Int)→Option ρ
def ahm{ρ:Type}(l p j:Int)(k:Nat)(n:List Int)(o:List (List Int))(a b c d e:Int)(f:Bool)(g h i:List Int)(nx B:cgz ρ):Option ρ:=br (decide (l<0)) none (br (decide (j<Ab.wrap (Ab.wrap (p+1)*2^min l.toNat 64))) (l6 a b c d e f g h i j fun C=>kr a b c d e f g h i 0 j [C] fun F=>ahh l p j (↑k:Int) k n o a b c d e f g h i 0 F fun G H I O m J M N q r s t u v w y z A=>br (decide ((m+1)*32≤140737488355328)) (nx G H (Ab.wrap (I+1)) (m+1) (bu7 m J 0++[z]) (bu7 m M []++[A]) N q r s t u v w y) none) (B l p j k n o a b c d e f g h i))
abbrev b6n:=Int×Int×Int×Nat×(List Int)×(List (List Int))×Int×Int×Int×Int×Int×Bool×(List Int)×(List Int)×(List Int)
abbrev cge:=b6n
def clu{ρ:Type}(f:b6n→Option ρ):cgz ρ:=fun n o p k l m a b c d e g h i j=>f (n,o,p,k,l,m,a,b,c,d,e,g,h,i,j)
def cde{ρ:Type}:ab5 b6n cge ρ:=fun (m,n,o,j,k,l,a,b,c,d,e,f,g,h,i) next ex=>ahm m n o j k l a b c d e f g h i (clu next) (clu ex)
def co4{ρ:Type}:=shut (lp (cde (ρ:=ρ)))
theorem cr0{ρ:Type}:co4 (ρ:=ρ)=lp cde:=bg _
def ccz{ρ:Type}(f:ab6 b6n cge ρ)(n o p:Int)(k:Nat)(l:List Int)(m:List (List Int))(a b c d e:Int)(g:Bool)(h i j:List Int)(q:cgz ρ):Option ρ:=f (n,o,p,k,l,m,a,b,c,d,e,g,h,i,j) (fun (n,o,p,k,l,m,a,b,c,d,e,g,h,i,j)=>q n o p k l m a b c d e g h i j)
def amx{ρ:Type}:=ccz (lp (cde (ρ:=ρ)))
def amm{ρ:Type}:=ccz (co4 (ρ:=ρ))
theorem ath{ρ:Type}:amm (ρ:=ρ)=amx:=congrArg ccz cr0
def af9{ρ:Type}(c d e f g:Int)(a:Bool)(b h i:List Int)(j l:Int)(k:(List Int)→Option ρ):Option ρ:=br (decide (j<0)) none (amm j l (Ab.wrap (l*2^min j.toNat 64)) 0 [] [] c d e f g a b h i fun t u v m w n y z A B o p q r s=>br (decide (0<(↑m:Int))) (k (n.getD 0 [])) none)
def pz{ρ:Type}:=shut (af9 (ρ:=ρ))
theorem amr{ρ:Type}(c:Int)(d:Int)(e:Int)(f:Int)(g:Int)(a:Bool)(b:List Int)(h:List Int)(i:List Int)(j:Int)(l:Int)(k:(List Int)→Option ρ):pz c d e f g a b h i j l k=af9 c d e f g a b h i j l k:=by unfold pz;rw[bg]

abbrev cgy(ρ:Type):=Int→Int→Int→(List Int)→Int→Int→Int→Int→Int→Bool→Int→Int→Int→Int→Int→Bool→(List Int)→(List Int)→(List Int)→Int→Int→Int→Int→Int→Bool→(List Int)→(List Int)→(List Int)→(List Int)→Option ρ
def alj{ρ:Type}(l m a:Int)(b:List Int)(n o p q r:Int)(s:Bool)(c d e f g:Int)(h:Bool)(i j k:List Int)(t u v w y:Int)(z:Bool)(A B C F:List Int)(nx H:cgy ρ):Option ρ:=br (decide (a<m)) (br (decide (a<0)) none (pz c d e f g h i j k a (bits BinOp.xor Ab (l.fdiv (2^min a.toNat 64)) 1) fun G=>br (decide ((b.length+G.length)*1≤140737488355328)) (nx l m (Aa.wrap (a+1)) (b++G) n o p q r s c d e f g h i j k t u v w y z A B C F) none)) (H l m a b n o p q r s c d e f g h i j k t u v w y z A B C F)
abbrev b9a:=Int×Int×Int×(List Int)×Int×Int×Int×Int×Int×Bool×Int×Int×Int×Int×Int×Bool×(List Int)×(List Int)×(List Int)×Int×Int×Int×Int×Int×Bool×(List Int)×(List Int)×(List Int)×(List Int)
abbrev ch1:=b9a
def cj1{ρ:Type}(f:b9a→Option ρ):cgy ρ:=fun B C F a b c d e g h i j k l m n o p q r s t u v w y z A G=>f (B,C,F,a,b,c,d,e,g,h,i,j,k,l,m,n,o,p,q,r,s,t,u,v,w,y,z,A,G)
def cc2{ρ:Type}:ab5 b9a ch1 ρ:=fun (A,B,C,a,b,c,d,e,f,g,h,i,j,k,l,m,n,o,p,q,r,s,t,u,v,w,y,z,F) next ex=>alj A B C a b c d e f g h i j k l m n o p q r s t u v w y z F (cj1 next) (cj1 ex)
def cpb{ρ:Type}:=shut (lp (cc2 (ρ:=ρ)))
theorem crn{ρ:Type}:cpb (ρ:=ρ)=lp cc2:=bg _
def cb7{ρ:Type}(f:ab6 b9a ch1 ρ)(B C F:Int)(a:List Int)(b c d e g:Int)(h:Bool)(i j k l m:Int)(n:Bool)(o p q:List Int)(r s t u v:Int)(w:Bool)(y z A G:List Int)(H:cgy ρ):Option ρ:=f (B,C,F,a,b,c,d,e,g,h,i,j,k,l,m,n,o,p,q,r,s,t,u,v,w,y,z,A,G) (fun (B,C,F,a,b,c,d,e,g,h,i,j,k,l,m,n,o,p,q,r,s,t,u,v,w,y,z,A,G)=>H B C F a b c d e g h i j k l m n o p q r s t u v w y z A G)
def atx{ρ:Type}:=cb7 (lp (cc2 (ρ:=ρ)))
def atc{ρ:Type}:=cb7 (cpb (ρ:=ρ))
theorem ayx{ρ:Type}:atc (ρ:=ρ)=atx:=congrArg cb7 crn
abbrev ckh(ρ:Type):=Int→Int→(List Int)→Int→Int→Int→Int→Int→Bool→Int→Int→Int→Int→Int→Bool→(List Int)→(List Int)→(List Int)→Int→Int→Int→Int→Int→Bool→(List Int)→(List Int)→(List Int)→(List Int)→Option ρ
def ana{ρ:Type}(n a:Int)(c:List Int)(o p q d r:Int)(s:Bool)(e f g h i:Int)(j:Bool)(k l m:List Int)(t u v b w:Int)(y:Bool)(z A B C:List Int)(nx k0:ckh ρ):Option ρ:=br (decide (a<n)) (br (decide (0≤a)) (br (decide (a<(↑C.length:Int))) (br (decide (b<0)) none (l6 e f g h i j k l m (bits BinOp.or Ab (Ab.wrap (Ab.wrap a*2^min b.toNat 64)) (Ab.wrap (C.getD a.toNat 0))) fun F=>br (decide ((c.length+F.length)*1≤140737488355328)) (atc (bits BinOp.or Ab (Ab.wrap (Ab.wrap a*2^min b.toNat 64)) (Ab.wrap (C.getD a.toNat 0))) d 0 (c++F) o p q d r s e f g h i j k l m t u v b w y z A B C fun q1 q2 q3 q4 q5 q6 q7 q8 q9 G H I J M N O Q U W Z aa ab ac ad ae af ag ah ai=>nx n (Aa.wrap (a+1)) q4 q5 q6 q7 q8 q9 G H I J M N O Q U W Z aa ab ac ad ae af ag ah ai) none)) none) none) (k0 n a c o p q d r s e f g h i j k l m t u v b w y z A B C)
abbrev b59:=Int×Int×(List Int)×Int×Int×Int×Int×Int×Bool×Int×Int×Int×Int×Int×Bool×(List Int)×(List Int)×(List Int)×Int×Int×Int×Int×Int×Bool×(List Int)×(List Int)×(List Int)×(List Int)
abbrev ckk:=b59
def co6{ρ:Type}(f:b59→Option ρ):ckh ρ:=fun B C a b c d e g h i j k l m n o p q r s t u v w y z A F=>f (B,C,a,b,c,d,e,g,h,i,j,k,l,m,n,o,p,q,r,s,t,u,v,w,y,z,A,F)
def cak{ρ:Type}:ab5 b59 ckk ρ:=fun (A,B,a,b,c,d,e,f,g,h,i,j,k,l,m,n,o,p,q,r,s,t,u,v,w,y,z,C) next ex=>ana A B a b c d e f g h i j k l m n o p q r s t u v w y z C (co6 next) (co6 ex)
def cji{ρ:Type}:=shut (lp (cak (ρ:=ρ)))
theorem cr2{ρ:Type}:cji (ρ:=ρ)=lp cak:=bg _
def ca0{ρ:Type}(f:ab6 b59 ckk ρ)(B C:Int)(a:List Int)(b c d e g:Int)(h:Bool)(i j k l m:Int)(n:Bool)(o p q:List Int)(r s t u v:Int)(w:Bool)(y z A F:List Int)(G:ckh ρ):Option ρ:=f (B,C,a,b,c,d,e,g,h,i,j,k,l,m,n,o,p,q,r,s,t,u,v,w,y,z,A,F) (fun (B,C,a,b,c,d,e,g,h,i,j,k,l,m,n,o,p,q,r,s,t,u,v,w,y,z,A,F)=>G B C a b c d e g h i j k l m n o p q r s t u v w y z A F)
def avl{ρ:Type}:=ca0 (lp (cak (ρ:=ρ)))
def av0{ρ:Type}:=ca0 (cji (ρ:=ρ))
theorem az3{ρ:Type}:av0 (ρ:=ρ)=avl:=congrArg ca0 cr2
def aqi{ρ:Type}(b c d e f:Int)(a:Bool)(j u v w:List Int)(k:(List Int)→Option ρ):Option ρ:=tu b c d e f a u v w fun l m n h i o p q r y=>ku b c d e f a fun z s=>br (!y) (k []) (br ((↑j.length:Int) !=s) (k []) (jr j h i fun g=>av0 (↑g.length:Int) 0 [] b c d e f a l m n h i o p q r l m n h i o p q r g fun A B t C F G H I J M N O Q U W Z aa ab ac ad ae af ag ah ai aj ak al=>k t))
def aco{ρ:Type}:=shut (aqi (ρ:=ρ))
theorem bdg{ρ:Type}(b:Int)(c:Int)(d:Int)(e:Int)(f:Int)(a:Bool)(g:List Int)(h:List Int)(i:List Int)(j:List Int)(k:(List Int)→Option ρ):aco b c d e f a g h i j k=aqi b c d e f a g h i j k:=by unfold aco;rw[bg]

def ae2{ρ:Type}(r s t u v:Int)(q:Bool)(n:Nat)(d:Int)(a:List Int)(m:Int)(l:Bool)(o e:Int)(b f:List Int)(g p h:Int)(c i:List Int)(j:Int)(w y:List Int)(A:Int)(k:(List Int)→Option ρ):Option ρ:=dz y 2 5 fun B=>yw y 3 fun C=>dz B 3 C fun F=>dz F 4 (Ab.wrap A) fun z=>br (decide (n=1)) (jq z w d a m l o fun G=>k G) (br (decide (n=2)) (jm z w e b f g p h c i j fun H=>k H) none)
def qc{ρ:Type}:=shut (ae2 (ρ:=ρ))
theorem aj8{ρ:Type}(q:Int)(r:Int)(s:Int)(t:Int)(u:Int)(m:Bool)(v:Nat)(d:Int)(a:List Int)(n:Int)(l:Bool)(o:Int)(e:Int)(b:List Int)(f:List Int)(g:Int)(p:Int)(h:Int)(c:List Int)(i:List Int)(j:Int)(w:List Int)(y:List Int)(z:Int)(k:(List Int)→Option ρ):qc q r s t u m v d a n l o e b f g p h c i j w y z k=ae2 q r s t u m v d a n l o e b f g p h c i j w y z k:=by unfold qc;rw[bg]

abbrev cnj(ρ:Type):=(List Int)→Int→Int→(List Int)→(List Int)→Int→Int→Int→Int→Int→Bool→Nat→Int→(List Int)→Int→Bool→Int→Int→(List Int)→(List Int)→Int→Int→Int→(List Int)→(List Int)→Int→Option ρ
def an2{ρ:Type}(A:List Int)(y w:Int)(z o:List Int)(p q r s t:Int)(u:Bool)(v:Nat)(a:Int)(b:List Int)(c:Int)(d:Bool)(e f:Int)(g h:List Int)(i j k:Int)(l m:List Int)(n:Int)(nx C:cnj ρ):Option ρ:=br (decide (w<y)) (dz o 4 (Ab.wrap w) fun F=>qc p q r s t u v a b c d e f g h i j k l m n A o w fun G=>mo p q r s t u v a b c d e f g h i j k l m n F G 0 15 fun B=>br (decide ((z.length+B.length)*1≤140737488355328)) (nx A y (Aa.wrap (w+1)) (z++B) o p q r s t u v a b c d e f g h i j k l m n) none) (C A y w z o p q r s t u v a b c d e f g h i j k l m n)
abbrev b5p:=(List Int)×Int×Int×(List Int)×(List Int)×Int×Int×Int×Int×Int×Bool×Nat×Int×(List Int)×Int×Bool×Int×Int×(List Int)×(List Int)×Int×Int×Int×(List Int)×(List Int)×Int
abbrev cjp:=b5p
def clp{ρ:Type}(f:b5p→Option ρ):cnj ρ:=fun B y z A p q r s t u v w a b c d e g h i j k l m n o=>f (B,y,z,A,p,q,r,s,t,u,v,w,a,b,c,d,e,g,h,i,j,k,l,m,n,o)
def caf{ρ:Type}:ab5 b5p cjp ρ:=fun (A,w,y,z,o,p,q,r,s,t,u,v,a,b,c,d,e,f,g,h,i,j,k,l,m,n) next ex=>an2 A w y z o p q r s t u v a b c d e f g h i j k l m n (clp next) (clp ex)
def cib{ρ:Type}:=shut (lp (caf (ρ:=ρ)))
theorem cro{ρ:Type}:cib (ρ:=ρ)=lp caf:=bg _
def cbd{ρ:Type}(f:ab6 b5p cjp ρ)(B:List Int)(y z:Int)(A p:List Int)(q r s t u:Int)(v:Bool)(w:Nat)(a:Int)(b:List Int)(c:Int)(d:Bool)(e g:Int)(h i:List Int)(j k l:Int)(m n:List Int)(o:Int)(C:cnj ρ):Option ρ:=f (B,y,z,A,p,q,r,s,t,u,v,w,a,b,c,d,e,g,h,i,j,k,l,m,n,o) (fun (B,y,z,A,p,q,r,s,t,u,v,w,a,b,c,d,e,g,h,i,j,k,l,m,n,o)=>C B y z A p q r s t u v w a b c d e g h i j k l m n o)
def av3{ρ:Type}:=cbd (lp (caf (ρ:=ρ)))
def avh{ρ:Type}:=cbd (cib (ρ:=ρ))
theorem baw{ρ:Type}:avh (ρ:=ρ)=av3:=congrArg cbd cro
def ak1{ρ:Type}(b o p q r:Int)(a:Bool)(s a2 a3:List Int)(k:(List Int)→Option ρ):Option ρ:=xw b o p q r a a2 fun t u v w y z A B C F c d e f g h i j l m n G=>br (!G) (k []) (br ((↑s.length:Int) !=b) (k []) (qd t u v w y z A B C F c d e f g h i j l m n fun H=>avh s H 0 [] a3 t u v w y z A B C F c d e f g h i j l m n fun ap aq ar I J M N O Q U W Z aa ab ac ad ae af ag ah ai aj ak al am an=>uw M N O Q U W Z aa ab ac ad ae af ag ah ai aj ak al am an I J fun ao=>k ao))
def aa8{ρ:Type}:=shut (ak1 (ρ:=ρ))
theorem avt{ρ:Type}(b:Int)(c:Int)(d:Int)(e:Int)(f:Int)(a:Bool)(g:List Int)(h:List Int)(i:List Int)(k:(List Int)→Option ρ):aa8 b c d e f a g h i k=ak1 b c d e f a g h i k:=by unfold aa8;rw[bg]

def ad1{ρ:Type}(rc:Int→Int→Int→Int→Int→Bool→(List Int)→(List Int)→(List Int)→Int→Int→((List Int)→Option ρ)→Option ρ)(c d e f g:Int)(a:Bool)(b h i:List Int)(j l:Int)(k:(List Int)→Option ρ):Option ρ:=br (j==0) (qy c d e f g a b h i l fun m=>aa8 c d e f g a b h m fun n=>k n) (rc c d e f g a b h i (Aa.wrap (j-1)) (Ab.wrap (2*l)) fun o=>rc c d e f g a b h i (Aa.wrap (j-1)) (Ab.wrap (Ab.wrap (2*l)+1)) fun p=>u6 c d e f g a b h i j l o p fun q=>k q)
def yg{ρ:Type}(n:Nat):Int→Int→Int→Int→Int→Bool→(List Int)→(List Int)→(List Int)→Int→Int→((List Int)→Option ρ)→Option ρ:=Nat.rec (fun _ _ _ _ _ _ _ _ _ _ _ _=>none) (fun _ rc=>shut (ad1 (ρ:=ρ) rc)) n
theorem aiz{ρ:Type}(n:Nat):yg (ρ:=ρ) (n+1)=ad1 (yg n):=bg _

abbrev cic(ρ:Type):=(List Int)→Int→Int→(List Int)→(List Int)→Int→Int→Int→Int→Int→Bool→Nat→Int→(List Int)→Int→Bool→Int→Int→(List Int)→(List Int)→Int→Int→Int→(List Int)→(List Int)→Int→(List Int)→Option ρ
def as0{ρ:Type}(B:List Int)(y o:Int)(z p:List Int)(q r s t u:Int)(v:Bool)(w:Nat)(a:Int)(b:List Int)(c:Int)(d:Bool)(e f:Int)(g h:List Int)(i j k:Int)(l m:List Int)(n:Int)(A:List Int)(nx F:cic ρ):Option ρ:=br (decide (o<y)) (br (decide (0≤o)) (br (decide (o<(↑A.length:Int))) (dz p 4 (Ab.wrap o) fun G=>qc q r s t u v w a b c d e f g h i j k l m n B p o fun H=>mo q r s t u v w a b c d e f g h i j k l m n G H 0 (A.getD o.toNat 0) fun C=>br (decide ((z.length+C.length)*1≤140737488355328)) (nx B y (Aa.wrap (o+1)) (z++C) p q r s t u v w a b c d e f g h i j k l m n A) none) none) none) (F B y o z p q r s t u v w a b c d e f g h i j k l m n A)
abbrev b6m:=(List Int)×Int×Int×(List Int)×(List Int)×Int×Int×Int×Int×Int×Bool×Nat×Int×(List Int)×Int×Bool×Int×Int×(List Int)×(List Int)×Int×Int×Int×(List Int)×(List Int)×Int×(List Int)
abbrev cg9:=b6m
def cmi{ρ:Type}(f:b6m→Option ρ):cic ρ:=fun B y z A p q r s t u v w a b c d e g h i j k l m n o C=>f (B,y,z,A,p,q,r,s,t,u,v,w,a,b,c,d,e,g,h,i,j,k,l,m,n,o,C)
def cbt{ρ:Type}:ab5 b6m cg9 ρ:=fun (A,w,y,z,o,p,q,r,s,t,u,v,a,b,c,d,e,f,g,h,i,j,k,l,m,n,B) next ex=>as0 A w y z o p q r s t u v a b c d e f g h i j k l m n B (cmi next) (cmi ex)
def coj{ρ:Type}:=shut (lp (cbt (ρ:=ρ)))
theorem cri{ρ:Type}:coj (ρ:=ρ)=lp cbt:=bg _
def cbx{ρ:Type}(f:ab6 b6m cg9 ρ)(B:List Int)(y z:Int)(A p:List Int)(q r s t u:Int)(v:Bool)(w:Nat)(a:Int)(b:List Int)(c:Int)(d:Bool)(e g:Int)(h i:List Int)(j k l:Int)(m n:List Int)(o:Int)(C:List Int)(F:cic ρ):Option ρ:=f (B,y,z,A,p,q,r,s,t,u,v,w,a,b,c,d,e,g,h,i,j,k,l,m,n,o,C) (fun (B,y,z,A,p,q,r,s,t,u,v,w,a,b,c,d,e,g,h,i,j,k,l,m,n,o,C)=>F B y z A p q r s t u v w a b c d e g h i j k l m n o C)
def bb8{ρ:Type}:=cbx (lp (cbt (ρ:=ρ)))
def bbs{ρ:Type}:=cbx (coj (ρ:=ρ))
theorem bfm{ρ:Type}:bbs (ρ:=ρ)=bb8:=congrArg cbx cri
def aoy{ρ:Type}(a d e f g:Int)(b:Bool)(h i y z:List Int)(k:(List Int)→Option ρ):Option ρ:=xw a d e f g b y fun A B C F G H I J M N j l m n o p q r s t u v=>br (!v) (k []) (br ((↑i.length:Int) !=a) (k []) (br ((↑h.length:Int) !=a) (k []) (yu a h fun c=>bbs i (↑c.length:Int) 0 [] z A B C F G H I J M N j l m n o p q r s t u c fun O Q U w W Z aa ab ac ad ae af ag ah ai aj ak al am an ao ap aq ar au av aw=>k w)))
def aea{ρ:Type}:=shut (aoy (ρ:=ρ))
theorem bbk{ρ:Type}(b:Int)(c:Int)(d:Int)(e:Int)(f:Int)(a:Bool)(g:List Int)(h:List Int)(i:List Int)(j:List Int)(k:(List Int)→Option ρ):aea b c d e f a g h i j k=aoy b c d e f a g h i j k:=by unfold aea;rw[bg]

abbrev cgh(ρ:Type):=Int→Int→Int→(List Int)→Int→Int→Int→Int→Int→Bool→(List Int)→(List Int)→(List Int)→Option ρ
def at6{ρ:Type}(m k a:Int)(l:List Int)(b c d e f:Int)(g:Bool)(h i j:List Int)(nx o:cgh ρ):Option ρ:=br (decide (a<k)) (br (decide (a<0)) none (yg (a.toNat+1) b c d e f g h i j a (bits BinOp.xor Ab (m.fdiv (2^min a.toNat 64)) 1) fun n=>br (decide ((l.length+n.length)*1≤140737488355328)) (nx m k (Aa.wrap (a+1)) (l++n) b c d e f g h i j) none)) (o m k a l b c d e f g h i j)
abbrev b6a:=Int×Int×Int×(List Int)×Int×Int×Int×Int×Int×Bool×(List Int)×(List Int)×(List Int)
abbrev cj7:=b6a
def cm2{ρ:Type}(f:b6a→Option ρ):cgh ρ:=fun n k l m a b c d e g h i j=>f (n,k,l,m,a,b,c,d,e,g,h,i,j)
def cdo{ρ:Type}:ab5 b6a cj7 ρ:=fun (m,j,k,l,a,b,c,d,e,f,g,h,i) next ex=>at6 m j k l a b c d e f g h i (cm2 next) (cm2 ex)
def cmm{ρ:Type}:=shut (lp (cdo (ρ:=ρ)))
theorem cps{ρ:Type}:cmm (ρ:=ρ)=lp cdo:=bg _
def caj{ρ:Type}(f:ab6 b6a cj7 ρ)(n k l:Int)(m:List Int)(a b c d e:Int)(g:Bool)(h i j:List Int)(o:cgh ρ):Option ρ:=f (n,k,l,m,a,b,c,d,e,g,h,i,j) (fun (n,k,l,m,a,b,c,d,e,g,h,i,j)=>o n k l m a b c d e g h i j)
def bcm{ρ:Type}:=caj (lp (cdo (ρ:=ρ)))
def bcg{ρ:Type}:=caj (cmm (ρ:=ρ))
theorem bhy{ρ:Type}:bcg (ρ:=ρ)=bcm:=congrArg caj cps
def ap7{ρ:Type}(b c d e f:Int)(a:Bool)(j g h l:List Int)(i:Int)(k:(List Int)→Option ρ):Option ρ:=qb b c d e f a [g,h,j] fun n=>br (!n) (k []) (jh b c d e f a fun m=>br (decide (m<0)) none (br (i.fdiv (2^min m.toNat 64) !=0) (k []) (qy b c d e f a g h l i fun o=>aea b c d e f a j g h o fun p=>jh b c d e f a fun q=>bcg i q 0 p b c d e f a g h l fun B C F r G s t u v w y z A=>k r)))
def aan{ρ:Type}:=shut (ap7 (ρ:=ρ))
theorem bcr{ρ:Type}(b:Int)(c:Int)(d:Int)(e:Int)(f:Int)(a:Bool)(g:List Int)(h:List Int)(i:List Int)(j:List Int)(l:Int)(k:(List Int)→Option ρ):aan b c d e f a g h i j l k=ap7 b c d e f a g h i j l k:=by unfold aan;rw[bg]

abbrev coh(ρ:Type):=Int→Int→(List Int)→Int→Int→Int→Int→Int→Bool→(List Int)→(List Int)→(List Int)→Int→Int→Int→Int→Int→Bool→Int→Int→Option ρ
def ale{ρ:Type}(t s:Int)(o:List Int)(a b c d e:Int)(f:Bool)(p q g:List Int)(h i j k l:Int)(m:Bool)(n r:Int)(nx z:coh ρ):Option ρ:=br (decide (s<t)) (dz [0,0,0,0,0,0,0,0,0,0,0,0,0,0,0,0,0,0,0,0,0,0,0,0,0,0,0,0,0,0,0,0] 0 (Ab.wrap s) fun A=>dz A 1 n fun v=>aan a b c d e f p q g v r fun u=>br (decide ((o.length+u.length)*1≤140737488355328)) (ji a b c d e f u p g v r fun B=>jh h i j k l m fun w=>br (decide (w<0)) none (jh h i j k l m fun y=>br (decide (y<0)) none (nx t (Aa.wrap (s+1)) (o++u) a b c d e f B q g h i j k l m (n.fdiv (2^min y.toNat 64)) (bits BinOp.and Ab n (Ab.wrap (Ab.wrap (1*2^min w.toNat 64)-1)))))) none) (z t s o a b c d e f p q g h i j k l m n r)
abbrev b9l:=Int×Int×(List Int)×Int×Int×Int×Int×Int×Bool×(List Int)×(List Int)×(List Int)×Int×Int×Int×Int×Int×Bool×Int×Int
abbrev cpe:=b9l
def cng{ρ:Type}(f:b9l→Option ρ):coh ρ:=fun t u a b c d e g h i j k l m n o p q r s=>f (t,u,a,b,c,d,e,g,h,i,j,k,l,m,n,o,p,q,r,s)
def ca2{ρ:Type}:ab5 b9l cpe ρ:=fun (s,t,a,b,c,d,e,f,g,h,i,j,k,l,m,n,o,p,q,r) next ex=>ale s t a b c d e f g h i j k l m n o p q r (cng next) (cng ex)
def cjv{ρ:Type}:=shut (lp (ca2 (ρ:=ρ)))
theorem crl{ρ:Type}:cjv (ρ:=ρ)=lp ca2:=bg _
def cay{ρ:Type}(f:ab6 b9l cpe ρ)(t u:Int)(a:List Int)(b c d e g:Int)(h:Bool)(i j k:List Int)(l m n o p:Int)(q:Bool)(r s:Int)(v:coh ρ):Option ρ:=f (t,u,a,b,c,d,e,g,h,i,j,k,l,m,n,o,p,q,r,s) (fun (t,u,a,b,c,d,e,g,h,i,j,k,l,m,n,o,p,q,r,s)=>v t u a b c d e g h i j k l m n o p q r s)
def asj{ρ:Type}:=cay (lp (ca2 (ρ:=ρ)))
def aso{ρ:Type}:=cay (cjv (ρ:=ρ))
theorem azm{ρ:Type}:aso (ρ:=ρ)=asj:=congrArg cay crl
def am2{ρ:Type}(c d b e f:Int)(a:Bool)(g h i:List Int)(j l:Int)(k:(List Int)→Option ρ):Option ρ:=qb c d b e f a [g,h,i] fun m=>br (!m) (k []) (mh c d b e f a j l fun n=>br (!n) (k []) (aso b 0 [] c d b e f a g h i c d b e f a j l fun C F o G H I J M p q r s t u v w y z A B=>k o))
def aa1{ρ:Type}:=shut (am2 (ρ:=ρ))
theorem ayy{ρ:Type}(b:Int)(c:Int)(d:Int)(e:Int)(f:Int)(a:Bool)(g:List Int)(h:List Int)(i:List Int)(j:Int)(l:Int)(k:(List Int)→Option ρ):aa1 b c d e f a g h i j l k=am2 b c d e f a g h i j l k:=by unfold aa1;rw[bg]

def aev{ρ:Type}(a d e f g:Int)(b:Bool)(c a2 a3 Z:List Int)(k:(List Int)→Int→Option ρ):Option ρ:=jy a d e f g b fun q0=>br (!q0) (k [] 9) (br ((↑c.length:Int) !=Aa.wrap (4*a)) (k [] 10) (br ((↑Z.length:Int) !=a) (k [] 14) (br (decide ((↑a3.length:Int)>255)) (k [] 2) (acv a d e f g b fun q1 q2 q3 q4 q5 q6 B q8 q9 l m n o p q r s t u v C F G H I J M N=>adl a2 a3 fun h=>br (decide (0≤a)) (br (decide (a≤(↑c.length:Int))) (br (decide (0≤a)) (br (decide (a≤Aa.wrap (2*a))) (br (decide (Aa.wrap (2*a)≤(↑c.length:Int))) (br (decide (0≤Aa.wrap (2*a))) (br (decide (Aa.wrap (2*a)≤(↑c.length:Int))) (br (decide ((↑c.length:Int)≤(↑c.length:Int))) (br (decide (0≤a)) (br (decide (a≤(↑(Ad (Aa.wrap (2*a)).toNat (Ac (↑c.length:Int).toNat c)).length:Int))) (br (decide (B=1)) (ql (Ad a.toNat (Ac (Aa.wrap (2*a)).toNat c)) Z h q8 q9 l m n o fun O=>qp q1 q2 q3 q4 q5 q6 B q8 q9 l m n o p q r s t u v C F G H I J M N O (Ad (Aa.wrap (2*a)).toNat (Ac (↑c.length:Int).toNat c)) h fun i w y=>o8 i w y fun aa=>aco a d e f g b i (Ad 0 (Ac a.toNat c)) (Ad 0 (Ac a.toNat (Ad (Aa.wrap (2*a)).toNat (Ac (↑c.length:Int).toNat c)))) aa fun Q=>o8 i w y fun ab=>p9 a d e f g b Q i (Ad 0 (Ac a.toNat (Ad (Aa.wrap (2*a)).toNat (Ac (↑c.length:Int).toNat c)))) ab fun ac=>aa1 a d e f g b ac (Ad 0 (Ac a.toNat c)) (Ad 0 (Ac a.toNat (Ad (Aa.wrap (2*a)).toNat (Ac (↑c.length:Int).toNat c)))) w y fun ad=>jc [O,Q,ad] fun ae=>k ae 0) (br (decide (B=2)) (qo (Ad a.toNat (Ac (Aa.wrap (2*a)).toNat c)) Z h p q r s t u v fun U=>qp q1 q2 q3 q4 q5 q6 B q8 q9 l m n o p q r s t u v C F G H I J M N U (Ad (Aa.wrap (2*a)).toNat (Ac (↑c.length:Int).toNat c)) h fun j z A=>o8 j z A fun af=>aco a d e f g b j (Ad 0 (Ac a.toNat c)) (Ad 0 (Ac a.toNat (Ad (Aa.wrap (2*a)).toNat (Ac (↑c.length:Int).toNat c)))) af fun W=>o8 j z A fun ag=>p9 a d e f g b W j (Ad 0 (Ac a.toNat (Ad (Aa.wrap (2*a)).toNat (Ac (↑c.length:Int).toNat c)))) ag fun ah=>aa1 a d e f g b ah (Ad 0 (Ac a.toNat c)) (Ad 0 (Ac a.toNat (Ad (Aa.wrap (2*a)).toNat (Ac (↑c.length:Int).toNat c)))) z A fun ai=>jc [U,W,ai] fun aj=>k aj 0) none)) none) none) none) none) none) none) none) none) none) none))))
def ai5{ρ:Type}:=shut (aev (ρ:=ρ))
theorem ah8{ρ:Type}(b:Int)(c:Int)(d:Int)(e:Int)(f:Int)(a:Bool)(g:List Int)(h:List Int)(i:List Int)(j:List Int)(k:(List Int)→Int→Option ρ):ai5 b c d e f a g h i j k=aev b c d e f a g h i j k:=by unfold ai5;rw[bg]

def ash{ρ:Type}(d e f a b:Int)(c:Bool)(k:Int→Int→Option ρ):Option ρ:=kg d e f a b c fun g=>br (!g) (k 0 0) (k (Aa.wrap (Aa.wrap (d*b)*Aa.wrap (a+1))) (Aa.wrap ((Aa.wrap (Aa.wrap (b*a)+7)).tdiv 8)))
def aax{ρ:Type}:=shut (ash (ρ:=ρ))
theorem bg8{ρ:Type}(b:Int)(c:Int)(d:Int)(e:Int)(f:Int)(a:Bool)(k:Int→Int→Option ρ):aax b c d e f a k=ash b c d e f a k:=by unfold aax;rw[bg]

abbrev cf0(ρ:Type):=(List (List Int))→Int→(List Int)→Option ρ
def axv{ρ:Type}(b:List (List Int))(a:Int)(c:List Int)(nx d:cf0 ρ):Option ρ:=br (decide (a<(↑b.length:Int))) (br (decide (0≤a)) (br (decide (a<(↑b.length:Int))) (br (decide ((c.length+(b.getD a.toNat []).length)*1≤140737488355328)) (nx b (Aa.wrap (a+1)) (c++b.getD a.toNat [])) none) none) none) (d b a c)
abbrev b5v:=(List (List Int))×Int×(List Int)
abbrev cfs:=b5v
def cf3{ρ:Type}(f:b5v→Option ρ):cf0 ρ:=fun a b c=>f (a,b,c)
def cep{ρ:Type}:ab5 b5v cfs ρ:=fun (a,b,c) next ex=>axv a b c (cf3 next) (cf3 ex)
def cku{ρ:Type}:=shut (lp (cep (ρ:=ρ)))
theorem cqm{ρ:Type}:cku (ρ:=ρ)=lp cep:=bg _
def cam{ρ:Type}(f:ab6 b5v cfs ρ)(a:List (List Int))(b:Int)(c:List Int)(d:cf0 ρ):Option ρ:=f (a,b,c) (fun (a,b,c)=>d a b c)
def bhw{ρ:Type}:=cam (lp (cep (ρ:=ρ)))
def bgf{ρ:Type}:=cam (cku (ρ:=ρ))
theorem biu{ρ:Type}:bgf (ρ:=ρ)=bhw:=congrArg cam cqm
def as8{ρ:Type}(a:List (List Int))(k:(List Int)→Option ρ):Option ρ:=bgf a 0 [] fun c d b=>k b
def iy{ρ:Type}:=shut (as8 (ρ:=ρ))
theorem be8{ρ:Type}(a:List (List Int))(k:(List Int)→Option ρ):iy a k=as8 a k:=by unfold iy;rw[bg]

def ak0{ρ:Type}(a:Int)(k:Int→Option ρ):Option ρ:=k (Aa.wrap ((Aa.wrap (a+7)).tdiv 8))
def ab9{ρ:Type}:=shut (ak0 (ρ:=ρ))
theorem avq{ρ:Type}(a:Int)(k:Int→Option ρ):ab9 a k=ak0 a k:=by unfold ab9;rw[bg]

def auc{ρ:Type}(a:Int)(k:Int→Option ρ):Option ρ:=br (a==4) (br (a==4) (k 136) (br (a==5) (k 72) (br (a==6) (k 168) (k 0)))) (br (a==7) (k 136) (br (a==5) (k 72) (br (a==6) (k 168) (k 0))))
def abn{ρ:Type}:=shut (auc (ρ:=ρ))
theorem bgz{ρ:Type}(a:Int)(k:Int→Option ρ):abn a k=auc a k:=by unfold abn;rw[bg]

def axj{ρ:Type}(a:Int)(k:Int→(List Int)→Int→Bool→Int→Option ρ):Option ρ:=abn a fun b=>br (b==0) (k 0 [0,0,0,0,0,0,0,0,0,0,0,0,0,0,0,0,0,0,0,0,0,0,0,0,0] 0 false 9) (k a [0,0,0,0,0,0,0,0,0,0,0,0,0,0,0,0,0,0,0,0,0,0,0,0,0] 0 false 0)
def ar9{ρ:Type}:=shut (axj (ρ:=ρ))
theorem bju{ρ:Type}(a:Int)(k:Int→(List Int)→Int→Bool→Int→Option ρ):ar9 a k=axj a k:=by unfold ar9;rw[bg]

abbrev chb(ρ:Type):=Int→Int→(List Int)→(List Int)→Option ρ
def afx{ρ:Type}(d a:Int)(c b:List Int)(nx e:chb ρ):Option ρ:=br (decide (a<(168:Int))) (br (bits BinOp.and Ab d (1:Int)==(1:Int)) (br (decide ((0:Int)≤Aa.wrap (a.tdiv (7:Int)))) (br (decide (Aa.wrap (a.tdiv (7:Int))<(↑24:Int))) (br (decide (a.tmod (7:Int)<(0:Int))) none (br (decide (Ab.wrap (Ab.wrap ((1:Int)*(2:Int)^min (a.tmod (7:Int)).toNat 64)-(1:Int))<(0:Int))) none (br (decide ((0:Int)≤Aa.wrap (a.tdiv (7:Int)))) (br (decide (Aa.wrap (a.tdiv (7:Int))<(↑24:Int))) (br (decide (Ab.wrap (d*(2:Int))≥(256:Int))) (nx (bits BinOp.xor Ab (bits BinOp.and Ab (Ab.wrap (d*(2:Int))) (255:Int)) (113:Int)) (Aa.wrap (a+(1:Int))) c (b.set (Aa.wrap (a.tdiv (7:Int))).toNat (bits BinOp.or Ab (b.getD (Aa.wrap (a.tdiv (7:Int))).toNat (0:Int)) (Ab.wrap ((1:Int)*(2:Int)^min (Ab.wrap (Ab.wrap ((1:Int)*(2:Int)^min (a.tmod (7:Int)).toNat 64)-(1:Int))).toNat 64))))) (nx (Ab.wrap (d*(2:Int))) (Aa.wrap (a+(1:Int))) c (b.set (Aa.wrap (a.tdiv (7:Int))).toNat (bits BinOp.or Ab (b.getD (Aa.wrap (a.tdiv (7:Int))).toNat (0:Int)) (Ab.wrap ((1:Int)*(2:Int)^min (Ab.wrap (Ab.wrap ((1:Int)*(2:Int)^min (a.tmod (7:Int)).toNat 64)-(1:Int))).toNat 64)))))) none) none))) none) none) (br (decide (Ab.wrap (d*(2:Int))≥(256:Int))) (nx (bits BinOp.xor Ab (bits BinOp.and Ab (Ab.wrap (d*(2:Int))) (255:Int)) (113:Int)) (Aa.wrap (a+(1:Int))) c b) (nx (Ab.wrap (d*(2:Int))) (Aa.wrap (a+(1:Int))) c b))) (e d a c b)
abbrev b5s:=Int×Int×(List Int)×(List Int)
abbrev ckb:=b5s
def b50{ρ:Type}(f:b5s→Option ρ):chb ρ:=fun c d a b=>f (c,d,a,b)
def b7t{ρ:Type}:ab5 b5s ckb ρ:=fun (c,d,a,b) next ex=>afx c d a b (b50 next) (b50 ex)
def cm0{ρ:Type}:=shut (lp (b7t (ρ:=ρ)))
theorem cqz{ρ:Type}:cm0 (ρ:=ρ)=lp b7t:=bg _
def b5j{ρ:Type}(f:ab6 b5s ckb ρ)(c d:Int)(a b:List Int)(e:chb ρ):Option ρ:=f (c,d,a,b) (fun (c,d,a,b)=>e c d a b)
def afw{ρ:Type}:=b5j (lp (b7t (ρ:=ρ)))
def arf{ρ:Type}:=b5j (cm0 (ρ:=ρ))
theorem af6{ρ:Type}:arf (ρ:=ρ)=afw:=congrArg b5j cqz
def ah3{ρ:Type}(k:(List Int)→Option ρ):Option ρ:=arf 1 0 [0,0,0,0,0,0,0,0,0,0,0,0,0,0,0,0,0,0,0,0,0,0,0,0] [0,0,0,0,0,0,0,0,0,0,0,0,0,0,0,0,0,0,0,0,0,0,0,0] fun b c d a=>k a
def aaw{ρ:Type}:=shut (ah3 (ρ:=ρ))
theorem aqx{ρ:Type}  (k:(List Int)→Option ρ):aaw  k=ah3  k:=by unfold aaw;rw[bg]

def ac3{ρ:Type}(b a:Int)(k:Int→Option ρ):Option ρ:=br (decide (a.tmod (64:Int)<(0:Int))) none (br (decide (Aa.wrap ((64:Int)-a.tmod (64:Int))<(0:Int))) none (k (bits BinOp.or Ab (Ab.wrap (b*(2:Int)^min (a.tmod (64:Int)).toNat 64)) (b.fdiv ((2:Int)^min (Aa.wrap ((64:Int)-a.tmod (64:Int))).toNat 64)))))
def ag9{ρ:Type}:=shut (ac3 (ρ:=ρ))
theorem aga{ρ:Type}(a:Int)(b:Int)(k:Int→Option ρ):ag9 a b k=ac3 a b k:=by unfold ag9;rw[bg]

abbrev cfr(ρ:Type):=Int→Int→Int→(List Int)→(List Int)→(List Int)→Option ρ
def aqc{ρ:Type}(b a d:Int)(c e f:List Int)(nx g:cfr ρ):Option ρ:=br (decide (d<24)) (br (decide (0≤Aa.wrap (b+Aa.wrap (5*a)))) (br (decide (Aa.wrap (b+Aa.wrap (5*a))<(↑25:Int))) (ag9 (c.getD (Aa.wrap (b+Aa.wrap (5*a))).toNat 0) (Aa.wrap ((Aa.wrap (Aa.wrap (d+1)*Aa.wrap (d+2))).tdiv 2)) fun h=>br (decide (0≤Aa.wrap (a+Aa.wrap (5*(Aa.wrap (Aa.wrap (2*b)+Aa.wrap (3*a))).tmod 5)))) (br (decide (Aa.wrap (a+Aa.wrap (5*(Aa.wrap (Aa.wrap (2*b)+Aa.wrap (3*a))).tmod 5))<(↑25:Int))) (nx a ((Aa.wrap (Aa.wrap (2*b)+Aa.wrap (3*a))).tmod 5) (Aa.wrap (d+1)) c e (f.set (Aa.wrap (a+Aa.wrap (5*(Aa.wrap (Aa.wrap (2*b)+Aa.wrap (3*a))).tmod 5))).toNat h)) none) none) none) none) (g b a d c e f)
abbrev b8z:=Int×Int×Int×(List Int)×(List Int)×(List Int)
abbrev cnq:=b8z
def b85{ρ:Type}(f:b8z→Option ρ):cfr ρ:=fun d e g a b c=>f (d,e,g,a,b,c)
def b7h{ρ:Type}:ab5 b8z cnq ρ:=fun (d,e,f,a,b,c) next ex=>aqc d e f a b c (b85 next) (b85 ex)
def cma{ρ:Type}:=shut (lp (b7h (ρ:=ρ)))
theorem cqt{ρ:Type}:cma (ρ:=ρ)=lp b7h:=bg _
def b5c{ρ:Type}(f:ab6 b8z cnq ρ)(d e g:Int)(a b c:List Int)(h:cfr ρ):Option ρ:=f (d,e,g,a,b,c) (fun (d,e,g,a,b,c)=>h d e g a b c)
def apv{ρ:Type}:=b5c (lp (b7h (ρ:=ρ)))
def bhj{ρ:Type}:=b5c (cma (ρ:=ρ))
theorem anb{ρ:Type}:bhj (ρ:=ρ)=apv:=congrArg b5c cqt
def atb{ρ:Type}(a:List Int)(k:(List Int)→Option ρ):Option ρ:=bhj 1 0 0 a [0,0,0,0,0,0,0,0,0,0,0,0,0,0,0,0,0,0,0,0,0,0,0,0,0] ([(0:Int),(0:Int),(0:Int),(0:Int),(0:Int),(0:Int),(0:Int),(0:Int),(0:Int),(0:Int),(0:Int),(0:Int),(0:Int),(0:Int),(0:Int),(0:Int),(0:Int),(0:Int),(0:Int),(0:Int),(0:Int),(0:Int),(0:Int),(0:Int),(0:Int)].set 0 (a.getD 0 0)) fun c d e f g b=>k b
def akw{ρ:Type}:=shut (atb (ρ:=ρ))
theorem bft{ρ:Type}(a:List Int)(k:(List Int)→Option ρ):akw a k=atb a k:=by unfold akw;rw[bg]

abbrev b6h(ρ:Type):=Int→(List Int)→(List Int)→(List Int)→Option ρ
def aku{ρ:Type}(a:Int)(b d c:List Int)(nx e:b6h ρ):Option ρ:=br (decide (a<25)) (br (decide (0≤a.tmod 5)) (br (decide (a.tmod 5<(↑5:Int))) (br (decide (0≤a)) (br (decide (a<(↑25:Int))) (br (decide (0≤a.tmod 5)) (br (decide (a.tmod 5<(↑5:Int))) (nx (Aa.wrap (a+1)) b d (c.set (a.tmod 5).toNat (bits BinOp.xor Ab (c.getD (a.tmod 5).toNat 0) (b.getD a.toNat 0)))) none) none) none) none) none) none) (e a b d c)
abbrev b6i:=Int×(List Int)×(List Int)×(List Int)
abbrev cig:=b6i
def b8q{ρ:Type}(f:b6i→Option ρ):b6h ρ:=fun d a b c=>f (d,a,b,c)
def b7i{ρ:Type}:ab5 b6i cig ρ:=fun (d,a,b,c) next ex=>aku d a b c (b8q next) (b8q ex)
def ciw{ρ:Type}:=shut (lp (b7i (ρ:=ρ)))
theorem crd{ρ:Type}:ciw (ρ:=ρ)=lp b7i:=bg _
def b5l{ρ:Type}(f:ab6 b6i cig ρ)(d:Int)(a b c:List Int)(e:b6h ρ):Option ρ:=f (d,a,b,c) (fun (d,a,b,c)=>e d a b c)
def akm{ρ:Type}:=b5l (lp (b7i (ρ:=ρ)))
def azq{ρ:Type}:=b5l (ciw (ρ:=ρ))
theorem aj1{ρ:Type}:azq (ρ:=ρ)=akm:=congrArg b5l crd
abbrev zc55(ρ:Type):=Int→(List Int)→(List Int)→(List Int)→Option ρ
def akr{ρ:Type}(a:Int)(b d c:List Int)(nx e:b6h ρ):Option ρ:=br (decide (a<25)) (br (decide (0≤a)) (br (decide (a<(↑25:Int))) (br (decide (0≤(Aa.wrap (a+4)).tmod 5)) (br (decide ((Aa.wrap (a+4)).tmod 5<(↑5:Int))) (br (decide (0≤(Aa.wrap (a+1)).tmod 5)) (br (decide ((Aa.wrap (a+1)).tmod 5<(↑5:Int))) (ag9 (b.getD ((Aa.wrap (a+1)).tmod 5).toNat 0) 1 fun f=>br (decide (0≤a)) (br (decide (a<(↑25:Int))) (nx (Aa.wrap (a+1)) b d (c.set a.toNat (bits BinOp.xor Ab (bits BinOp.xor Ab (c.getD a.toNat 0) (b.getD ((Aa.wrap (a+4)).tmod 5).toNat 0)) f))) none) none) none) none) none) none) none) none) (e a b d c)
abbrev b89:=Int×(List Int)×(List Int)×(List Int)
abbrev clc:=b89
def b52{ρ:Type}(f:b89→Option ρ):zc55 ρ:=fun d a b c=>f (d,a,b,c)
def b5w{ρ:Type}:ab5 b89 clc ρ:=fun (d,a,b,c) next ex=>akr d a b c (b52 next) (b52 ex)
def cn1{ρ:Type}:=shut (lp (b5w (ρ:=ρ)))
theorem cqk{ρ:Type}:cn1 (ρ:=ρ)=lp b5w:=bg _
def b5d{ρ:Type}(f:ab6 b89 clc ρ)(d:Int)(a b c:List Int)(e:b6h ρ):Option ρ:=f (d,a,b,c) (fun (d,a,b,c)=>e d a b c)
def akv{ρ:Type}:=b5d (lp (b5w (ρ:=ρ)))
def ayh{ρ:Type}:=b5d (cn1 (ρ:=ρ))
theorem aju{ρ:Type}:ayh (ρ:=ρ)=akv:=congrArg b5d cqk
def anc{ρ:Type}(a:List Int)(k:(List Int)→Option ρ):Option ρ:=azq 0 a [0,0,0,0,0,0,0,0,0,0,0,0,0,0,0,0,0,0,0,0,0,0,0,0,0] [0,0,0,0,0] fun f b c d=>ayh 0 d c b fun g h i e=>k e
def aff{ρ:Type}:=shut (anc (ρ:=ρ))
theorem azz{ρ:Type}(a:List Int)(k:(List Int)→Option ρ):aff a k=anc a k:=by unfold aff;rw[bg]

abbrev cl7(ρ:Type):=Int→Int→(List Int)→(List Int)→(List Int)→(List Int)→Option ρ
def au7{ρ:Type}(f a:Int)(c d e b:List Int)(nx g:cl7 ρ):Option ρ:=br (decide (a<25)) (br (decide (0≤a)) (br (decide (a<(↑25:Int))) (br (decide (0≤Aa.wrap (Aa.wrap (Aa.wrap (a.tdiv 5)*5)+(Aa.wrap (a+1)).tmod 5))) (br (decide (Aa.wrap (Aa.wrap (Aa.wrap (a.tdiv 5)*5)+(Aa.wrap (a+1)).tmod 5)<(↑25:Int))) (br (decide (0≤Aa.wrap (Aa.wrap (Aa.wrap (a.tdiv 5)*5)+(Aa.wrap (a+2)).tmod 5))) (br (decide (Aa.wrap (Aa.wrap (Aa.wrap (a.tdiv 5)*5)+(Aa.wrap (a+2)).tmod 5)<(↑25:Int))) (br (decide (0≤a)) (br (decide (a<(↑25:Int))) (nx f (Aa.wrap (a+1)) c d (e.set a.toNat (bits BinOp.xor Ab (b.getD a.toNat 0) (bits BinOp.and Ab (bits BinOp.xor Ab (b.getD (Aa.wrap (Aa.wrap (Aa.wrap (a.tdiv 5)*5)+(Aa.wrap (a+1)).tmod 5)).toNat 0) 18446744073709551615) (b.getD (Aa.wrap (Aa.wrap (Aa.wrap (a.tdiv 5)*5)+(Aa.wrap (a+2)).tmod 5)).toNat 0)))) b) none) none) none) none) none) none) none) none) (g f a c d e b)
abbrev b79:=Int×Int×(List Int)×(List Int)×(List Int)×(List Int)
abbrev ce6:=b79
def cf4{ρ:Type}(f:b79→Option ρ):cl7 ρ:=fun e g a b c d=>f (e,g,a,b,c,d)
def cez{ρ:Type}:ab5 b79 ce6 ρ:=fun (e,f,a,b,c,d) next ex=>au7 e f a b c d (cf4 next) (cf4 ex)
def ch7{ρ:Type}:=shut (lp (cez (ρ:=ρ)))
theorem cpq{ρ:Type}:ch7 (ρ:=ρ)=lp cez:=bg _
def cdl{ρ:Type}(f:ab6 b79 ce6 ρ)(e g:Int)(a b c d:List Int)(h:cl7 ρ):Option ρ:=f (e,g,a,b,c,d) (fun (e,g,a,b,c,d)=>h e g a b c d)
def avi{ρ:Type}:=cdl (lp (cez (ρ:=ρ)))
def am7{ρ:Type}:=cdl (ch7 (ρ:=ρ))
theorem bay{ρ:Type}:am7 (ρ:=ρ)=avi:=congrArg cdl cpq
abbrev cgx(ρ:Type):=Int→(List Int)→(List Int)→(List Int)→Option ρ
def ang{ρ:Type}(e:Int)(a b c:List Int)(nx h:cgx ρ):Option ρ:=br (decide (e<24)) (aff a fun i=>akw i fun j=>am7 e 0 c b a j fun d l f k g m=>br (decide (0≤d)) (br (decide (d<(↑24:Int))) (nx (Aa.wrap (d+1)) (g.set 0 (bits BinOp.xor Ab (g.getD 0 0) (f.getD d.toNat 0))) k f) none) none) (h e a b c)
abbrev b9j:=Int×(List Int)×(List Int)×(List Int)
abbrev cnu:=b9j
def cif{ρ:Type}(f:b9j→Option ρ):cgx ρ:=fun d a b c=>f (d,a,b,c)
def cck{ρ:Type}:ab5 b9j cnu ρ:=fun (d,a,b,c) next ex=>ang d a b c (cif next) (cif ex)
def cmz{ρ:Type}:=shut (lp (cck (ρ:=ρ)))
theorem crw{ρ:Type}:cmz (ρ:=ρ)=lp cck:=bg _
def cey{ρ:Type}(f:ab6 b9j cnu ρ)(d:Int)(a b c:List Int)(e:cgx ρ):Option ρ:=f (d,a,b,c) (fun (d,a,b,c)=>e d a b c)
def avz{ρ:Type}:=cey (lp (cck (ρ:=ρ)))
def au8{ρ:Type}:=cey (cmz (ρ:=ρ))
theorem ba6{ρ:Type}:au8 (ρ:=ρ)=avz:=congrArg cey crw
def ak3{ρ:Type}(a:List Int)(k:(List Int)→Option ρ):Option ρ:=aaw fun b=>au8 0 a [0,0,0,0,0,0,0,0,0,0,0,0,0,0,0,0,0,0,0,0,0,0,0,0,0] b fun d c e f=>k c
def uh{ρ:Type}:=shut (ak3 (ρ:=ρ))
theorem avy{ρ:Type}(a:List Int)(k:(List Int)→Option ρ):uh a k=ak3 a k:=by unfold uh;rw[bg]

def axg{ρ:Type}(b:List Int)(a c:Int)(k:(List Int)→Option ρ):Option ρ:=br (decide (0≤Aa.wrap (a.tdiv 8))) (br (decide (Aa.wrap (a.tdiv 8)<(↑25:Int))) (br (decide (Aa.wrap (8*a.tmod 8)<0)) none (br (decide (0≤Aa.wrap (a.tdiv 8))) (br (decide (Aa.wrap (a.tdiv 8)<(↑25:Int))) (k (b.set (Aa.wrap (a.tdiv 8)).toNat (bits BinOp.xor Ab (b.getD (Aa.wrap (a.tdiv 8)).toNat 0) (Ab.wrap (Ab.wrap c*2^min (Aa.wrap (8*a.tmod 8)).toNat 64))))) none) none)) none) none
def aa4{ρ:Type}:=shut (axg (ρ:=ρ))
theorem bkj{ρ:Type}(a:List Int)(b:Int)(c:Int)(k:(List Int)→Option ρ):aa4 a b c k=axg a b c k:=by unfold aa4;rw[bg]

abbrev clv(ρ:Type):=Int→Int→(List Int)→Int→(List Int)→Int→Bool→Int→(List Int)→Int→Bool→Option ρ
def als{ρ:Type}(j k:Int)(b:List Int)(d:Int)(c:List Int)(a:Int)(e:Bool)(f:Int)(g:List Int)(h:Int)(i:Bool)(nx m:clv ρ):Option ρ:=br (decide ((↑b.length:Int)<j)) (br (a==k) (uh c fun l=>br (decide ((b.length+1)*1≤140737488355328)) (nx j k (b++[Af.wrap ((l.getD 0 0).fdiv (2^0))]) d l (Aa.wrap (0+1)) e f g h i) none) (br (decide (0≤Aa.wrap (a.tdiv 8))) (br (decide (Aa.wrap (a.tdiv 8)<(↑25:Int))) (br (decide (Aa.wrap (8*a.tmod 8)<0)) none (br (decide ((b.length+1)*1≤140737488355328)) (nx j k (b++[Af.wrap ((c.getD (Aa.wrap (a.tdiv 8)).toNat 0).fdiv (2^min (Aa.wrap (8*a.tmod 8)).toNat 64))]) d c (Aa.wrap (a+1)) e f g h i) none)) none) none)) (m j k b d c a e f g h i)
abbrev b9o:=Int×Int×(List Int)×Int×(List Int)×Int×Bool×Int×(List Int)×Int×Bool
abbrev cpg:=b9o
def cfp{ρ:Type}(f:b9o→Option ρ):clv ρ:=fun k l j a b c d e g h i=>f (k,l,j,a,b,c,d,e,g,h,i)
def cdc{ρ:Type}:ab5 b9o cpg ρ:=fun (j,k,i,a,b,c,d,e,f,g,h) next ex=>als j k i a b c d e f g h (cfp next) (cfp ex)
def ckt{ρ:Type}:=shut (lp (cdc (ρ:=ρ)))
theorem cq6{ρ:Type}:ckt (ρ:=ρ)=lp cdc:=bg _
def cbr{ρ:Type}(f:ab6 b9o cpg ρ)(k l:Int)(j:List Int)(a:Int)(b:List Int)(c:Int)(d:Bool)(e:Int)(g:List Int)(h:Int)(i:Bool)(m:clv ρ):Option ρ:=f (k,l,j,a,b,c,d,e,g,h,i) (fun (k,l,j,a,b,c,d,e,g,h,i)=>m k l j a b c d e g h i)
def as4{ρ:Type}:=cbr (lp (cdc (ρ:=ρ)))
def aa3{ρ:Type}:=cbr (ckt (ρ:=ρ))
theorem azw{ρ:Type}:aa3 (ρ:=ρ)=as4:=congrArg cbr cq6
def aly{ρ:Type}(a:Int)(b:List Int)(c:Int)(d:Bool)(f:Int)(k:Int→(List Int)→Int→Bool→(List Int)→Option ρ):Option ρ:=br (decide (f<0)) (k a b c d []) (abn a fun e=>br (!d) (br (a==4) (aa4 b c 6 fun G=>aa4 G (Aa.wrap (e-1)) 128 fun H=>uh H fun I=>aa3 f e [] a I 0 true 0 [0,0,0,0,0,0,0,0,0,0,0,0,0,0,0,0,0,0,0,0,0,0,0,0,0] 0 false fun q4 q5 J M N O g Q U W Z=>k M N O g J) (br (a==5) (aa4 b c 6 fun h=>aa4 h (Aa.wrap (e-1)) 128 fun i=>uh i fun j=>aa3 f e [] a j 0 true 0 [0,0,0,0,0,0,0,0,0,0,0,0,0,0,0,0,0,0,0,0,0,0,0,0,0] 0 false fun aa ab l m n o p ac ad ae af=>k m n o p l) (aa4 b c 31 fun q=>aa4 q (Aa.wrap (e-1)) 128 fun r=>uh r fun s=>aa3 f e [] a s 0 true 0 [0,0,0,0,0,0,0,0,0,0,0,0,0,0,0,0,0,0,0,0,0,0,0,0,0] 0 false fun ag ah t u v w y ai aj ak al=>k u v w y t))) (aa3 f e [] a b c d 0 [0,0,0,0,0,0,0,0,0,0,0,0,0,0,0,0,0,0,0,0,0,0,0,0,0] 0 false fun am an z A B C F ao ap aq ar=>k A B C F z))
def abf{ρ:Type}:=shut (aly (ρ:=ρ))
theorem avw{ρ:Type}(b:Int)(a:List Int)(d:Int)(c:Bool)(e:Int)(k:Int→(List Int)→Int→Bool→(List Int)→Option ρ):abf b a d c e k=aly b a d c e k:=by unfold abf;rw[bg]

abbrev cg8(ρ:Type):=(List Int)→Int→Int→(List Int)→Int→Bool→Int→(List Int)→Int→Bool→Option ρ
def aqd{ρ:Type}(i:List Int)(c a:Int)(j:List Int)(b:Int)(d:Bool)(e:Int)(f:List Int)(g:Int)(h:Bool)(nx l:cg8 ρ):Option ρ:=br (decide (c<(↑i.length:Int))) (br (decide (0≤c)) (br (decide (c<(↑i.length:Int))) (aa4 j b (i.getD c.toNat 0) fun k=>abn a fun m=>br (Aa.wrap (b+1)==m) (uh k fun n=>nx i (Aa.wrap (c+1)) a n 0 d e f g h) (nx i (Aa.wrap (c+1)) a k (Aa.wrap (b+1)) d e f g h)) none) none) (l i c a j b d e f g h)
abbrev b8a:=(List Int)×Int×Int×(List Int)×Int×Bool×Int×(List Int)×Int×Bool
abbrev ce4:=b8a
def cjl{ρ:Type}(f:b8a→Option ρ):cg8 ρ:=fun j k a b c d e g h i=>f (j,k,a,b,c,d,e,g,h,i)
def cdp{ρ:Type}:ab5 b8a ce4 ρ:=fun (i,j,a,b,c,d,e,f,g,h) next ex=>aqd i j a b c d e f g h (cjl next) (cjl ex)
def chc{ρ:Type}:=shut (lp (cdp (ρ:=ρ)))
theorem cq9{ρ:Type}:chc (ρ:=ρ)=lp cdp:=bg _
def cec{ρ:Type}(f:ab6 b8a ce4 ρ)(j:List Int)(k a:Int)(b:List Int)(c:Int)(d:Bool)(e:Int)(g:List Int)(h:Int)(i:Bool)(l:cg8 ρ):Option ρ:=f (j,k,a,b,c,d,e,g,h,i) (fun (j,k,a,b,c,d,e,g,h,i)=>l j k a b c d e g h i)
def azu{ρ:Type}:=cec (lp (cdp (ρ:=ρ)))
def aye{ρ:Type}:=cec (chc (ρ:=ρ))
theorem bdr{ρ:Type}:aye (ρ:=ρ)=azu:=congrArg cec cq9
def am6{ρ:Type}(c:Int)(a:List Int)(d:Int)(b:Bool)(e:List Int)(k:Int→(List Int)→Int→Bool→Option ρ):Option ρ:=br b (k c a d b) (aye e 0 c a d b 0 [0,0,0,0,0,0,0,0,0,0,0,0,0,0,0,0,0,0,0,0,0,0,0,0,0] 0 false fun j l f g h i m n o p=>k f g h i)
def ac1{ρ:Type}:=shut (am6 (ρ:=ρ))
theorem azt{ρ:Type}(b:Int)(a:List Int)(d:Int)(c:Bool)(e:List Int)(k:Int→(List Int)→Int→Bool→Option ρ):ac1 b a d c e k=am6 b a d c e k:=by unfold ac1;rw[bg]

def awc{ρ:Type}(d:Int)(e:List Int)(a:Int)(k:(List Int)→Int→Option ρ):Option ρ:=ar9 d fun f g h i b=>br (b !=0) (k [] b) (br (decide (a<0)) (k [] 8) (br (decide (a>16777216)) (k [] 8) (ac1 f g h i e fun j l m n=>abf j l m n a fun r o p q c=>k c 0)))
def abk{ρ:Type}:=shut (awc (ρ:=ρ))
theorem bk7{ρ:Type}(a:Int)(b:List Int)(c:Int)(k:(List Int)→Int→Option ρ):abk a b c k=awc a b c k:=by unfold abk;rw[bg]

def axk{ρ:Type}(a:Int)(k:Int→(List Int)→(List Int)→Int→Int→Option ρ):Option ρ:=br (a==1) (k a [1779033703,3144134277,1013904242,2773480762,1359893119,2600822924,528734635,1541459225] [] 0 0) (br (a==2) (k a [14680500436340154072,7105036623409894663,10473403895298186519,1526699215303891257,7436329637833083697,10282925794625328401,15784041429090275239,5167115440072839076] [] 0 0) (br (a==3) (k a [7640891576956012808,13503953896175478587,4354685564936845355,11912009170470909681,5840696475078001361,11170449401992604703,2270897969802886507,6620516959819538809] [] 0 0) (k 0 [0,0,0,0,0,0,0,0] [] 0 9)))
def alf{ρ:Type}:=shut (axk (ρ:=ρ))
theorem bk9{ρ:Type}(a:Int)(k:Int→(List Int)→(List Int)→Int→Int→Option ρ):alf a k=axk a k:=by unfold alf;rw[bg]

abbrev cjr(ρ:Type):=Int→Int→(List Int)→Option ρ
def bei{ρ:Type}(b a:Int)(c:List Int)(nx d:cjr ρ):Option ρ:=br (decide (a≥0)) (br (decide (0≤a)) (br (decide (a<(↑c.length:Int))) (nx (b.fdiv (2^8)) (Aa.wrap (a-1)) (c.set a.toNat (Af.wrap (bits BinOp.and Ab b 255)))) none) none) (d b a c)
abbrev b8d:=Int×Int×(List Int)
abbrev cj3:=b8d
def cih{ρ:Type}(f:b8d→Option ρ):cjr ρ:=fun a b c=>f (a,b,c)
def ccx{ρ:Type}:ab5 b8d cj3 ρ:=fun (a,b,c) next ex=>bei a b c (cih next) (cih ex)
def cf7{ρ:Type}:=shut (lp (ccx (ρ:=ρ)))
theorem cqs{ρ:Type}:cf7 (ρ:=ρ)=lp ccx:=bg _
def cea{ρ:Type}(f:ab6 b8d cj3 ρ)(a b:Int)(c:List Int)(d:cjr ρ):Option ρ:=f (a,b,c) (fun (a,b,c)=>d a b c)
def bps{ρ:Type}:=cea (lp (ccx (ρ:=ρ)))
def bpr{ρ:Type}:=cea (cf7 (ρ:=ρ))
theorem bpx{ρ:Type}:bpr (ρ:=ρ)=bps:=congrArg cea cqs
def bav{ρ:Type}(b a:Int)(k:(List Int)→Option ρ):Option ρ:=br (decide (a<0)) (k []) (br (decide (a>65536)) (k []) (br (decide (0≤a)) (br (decide (a≤a)) (br (decide (a*(↑1:Int)≤(↑140737488355328:Int))) (bpr b (Aa.wrap (a-1)) (List.replicate a.toNat (0:Int)) fun d e c=>k c) none) none) none))
def yx{ρ:Type}:=shut (bav (ρ:=ρ))
theorem bn1{ρ:Type}(a:Int)(b:Int)(k:(List Int)→Option ρ):yx a b k=bav a b k:=by unfold yx;rw[bg]

def aph{ρ:Type}(a:Int)(k:Int→Option ρ):Option ρ:=br (a==1) (k 64) (k 128)
def zf{ρ:Type}:=shut (aph (ρ:=ρ))
theorem bcq{ρ:Type}(a:Int)(k:Int→Option ρ):zf a k=aph a k:=by unfold zf;rw[bg]

def ara{ρ:Type}(k:(List Int)→Option ρ):Option ρ:=k [1116352408,1899447441,3049323471,3921009573,961987163,1508970993,2453635748,2870763221,3624381080,310598401,607225278,1426881987,1925078388,2162078206,2614888103,3248222580,3835390401,4022224774,264347078,604807628,770255983,1249150122,1555081692,1996064986,2554220882,2821834349,2952996808,3210313671,3336571891,3584528711,113926993,338241895,666307205,773529912,1294757372,1396182291,1695183700,1986661051,2177026350,2456956037,2730485921,2820302411,3259730800,3345764771,3516065817,3600352804,4094571909,275423344,430227734,506948616,659060556,883997877,958139571,1322822218,1537002063,1747873779,1955562222,2024104815,2227730452,2361852424,2428436474,2756734187,3204031479,3329325298]
def aa0{ρ:Type}:=shut (ara (ρ:=ρ))
theorem ak2{ρ:Type}  (k:(List Int)→Option ρ):aa0  k=ara  k:=by unfold aa0;rw[bg]

def arn{ρ:Type}(k:(List Int)→Option ρ):Option ρ:=k [4794697086780616226,8158064640168781261,13096744586834688815,16840607885511220156,4131703408338449720,6480981068601479193,10538285296894168987,12329834152419229976,15566598209576043074,1334009975649890238,2608012711638119052,6128411473006802146,8268148722764581231,9286055187155687089,11230858885718282805,13951009754708518548,16472876342353939154,17275323862435702243,1135362057144423861,2597628984639134821,3308224258029322869,5365058923640841347,6679025012923562964,8573033837759648693,10970295158949994411,12119686244451234320,12683024718118986047,13788192230050041572,14330467153632333762,15395433587784984357,489312712824947311,1452737877330783856,2861767655752347644,3322285676063803686,5560940570517711597,5996557281743188959,7280758554555802590,8532644243296465576,9350256976987008742,10552545826968843579,11727347734174303076,12113106623233404929,14000437183269869457,14369950271660146224,15101387698204529176,15463397548674623760,17586052441742319658,1182934255886127544,1847814050463011016,2177327727835720531,2830643537854262169,3796741975233480872,4115178125766777443,5681478168544905931,6601373596472566643,7507060721942968483,8399075790359081724,8693463985226723168,9568029438360202098,10144078919501101548,10430055236837252648,11840083180663258601,13761210420658862357,14299343276471374635,14566680578165727644,15097957966210449927,16922976911328602910,17689382322260857208,500013540394364858,748580250866718886,1242879168328830382,1977374033974150939,2944078676154940804,3659926193048069267,4368137639120453308,4836135668995329356,5532061633213252278,6448918945643986474,6902733635092675308,7801388544844847127]
def aaz{ρ:Type}:=shut (arn (ρ:=ρ))
theorem ak4{ρ:Type}  (k:(List Int)→Option ρ):aaz  k=arn  k:=by unfold aaz;rw[bg]

abbrev cj5(ρ:Type):=(List Int)→Int→Int→Option ρ
def bao{ρ:Type}(b:List Int)(c a:Int)(nx d:cj5 ρ):Option ρ:=br (decide (a<(↑b.length:Int))) (br (decide (0≤a)) (br (decide (a<(↑b.length:Int))) (nx b (Ab.wrap (Ab.wrap (c*256)+Ab.wrap (b.getD a.toNat 0))) (Aa.wrap (a+1))) none) none) (d b c a)
abbrev b9b:=(List Int)×Int×Int
abbrev cko:=b9b
def cpc{ρ:Type}(f:b9b→Option ρ):cj5 ρ:=fun a b c=>f (a,b,c)
def cdf{ρ:Type}:ab5 b9b cko ρ:=fun (a,b,c) next ex=>bao a b c (cpc next) (cpc ex)
def ch9{ρ:Type}:=shut (lp (cdf (ρ:=ρ)))
theorem cqb{ρ:Type}:ch9 (ρ:=ρ)=lp cdf:=bg _
def cc1{ρ:Type}(f:ab6 b9b cko ρ)(a:List Int)(b c:Int)(d:cj5 ρ):Option ρ:=f (a,b,c) (fun (a,b,c)=>d a b c)
def bku{ρ:Type}:=cc1 (lp (cdf (ρ:=ρ)))
def bka{ρ:Type}:=cc1 (ch9 (ρ:=ρ))
theorem bld{ρ:Type}:bka (ρ:=ρ)=bku:=congrArg cc1 cqb
def axd{ρ:Type}(a:List Int)(k:Int→Option ρ):Option ρ:=bka a 0 0 fun c b d=>k b
def wm{ρ:Type}:=shut (axd (ρ:=ρ))
theorem bkd{ρ:Type}(a:List Int)(k:Int→Option ρ):wm a k=axd a k:=by unfold wm;rw[bg]

def ag0{ρ:Type}(b a:Int)(c:Bool)(k:Int→Option ρ):Option ρ:=br c (br (decide (a<0)) none (br (decide (Aa.wrap (64-a)<0)) none (k (bits BinOp.or Ab (b.fdiv (2^min a.toNat 64)) (Ab.wrap (b*2^min (Aa.wrap (64-a)).toNat 64)))))) (br (decide (a<0)) none (br (decide (Aa.wrap (32-a)<0)) none (k (bits BinOp.or Ab (b.fdiv (2^min a.toNat 64)) (bits BinOp.and Ab (Ab.wrap (b*2^min (Aa.wrap (32-a)).toNat 64)) 4294967295)))))
def abl{ρ:Type}:=shut (ag0 (ρ:=ρ))
theorem amn{ρ:Type}(a:Int)(b:Int)(c:Bool)(k:Int→Option ρ):abl a b c k=ag0 a b c k:=by unfold abl;rw[bg]

def aen{ρ:Type}(a d e c:Int)(f b:Bool)(k:Int→Option ρ):Option ρ:=br (decide (c<0)) none (br (!f) (abl a c b fun g=>abl a d b fun h=>abl a e b fun i=>k (bits BinOp.xor Ab (bits BinOp.xor Ab h i) g)) (abl a d b fun j=>abl a e b fun l=>k (bits BinOp.xor Ab (bits BinOp.xor Ab j l) (a.fdiv (2^min c.toNat 64)))))
def abe{ρ:Type}:=shut (aen (ρ:=ρ))
theorem aic{ρ:Type}(a:Int)(b:Int)(c:Int)(d:Int)(e:Bool)(f:Bool)(k:Int→Option ρ):abe a b c d e f k=aen a b c d e f k:=by unfold abe;rw[bg]

abbrev cnc(ρ:Type):=(List Int)→Bool→Int→Int→Int→Int→(List Int)→Option ρ
def ajh{ρ:Type}(d:List Int)(f:Bool)(g e c a:Int)(b:List Int)(nx h:cnc ρ):Option ρ:=br (decide (a<g)) (br (decide (a<16)) (br (decide (0≤Aa.wrap (a*c))) (br (decide (Aa.wrap (a*c)≤Aa.wrap (Aa.wrap (a*c)+c))) (br (decide (Aa.wrap (Aa.wrap (a*c)+c)≤(↑d.length:Int))) (wm (Ad (Aa.wrap (a*c)).toNat (Ac (Aa.wrap (Aa.wrap (a*c)+c)).toNat d)) fun i=>br (decide ((b.length+1)*8≤140737488355328)) (nx d f g e c (Aa.wrap (a+1)) (b++[i])) none) none) none) none) (br (decide (0≤Aa.wrap (a-15))) (br (decide (Aa.wrap (a-15)<(↑b.length:Int))) (abe (b.getD (Aa.wrap (a-15)).toNat 0) 7 18 3 true false fun j=>br (decide (0≤Aa.wrap (a-2))) (br (decide (Aa.wrap (a-2)<(↑b.length:Int))) (abe (b.getD (Aa.wrap (a-2)).toNat 0) 17 19 10 true false fun k=>br f (br (decide (0≤Aa.wrap (a-15))) (br (decide (Aa.wrap (a-15)<(↑b.length:Int))) (abe (b.getD (Aa.wrap (a-15)).toNat 0) 1 8 7 true true fun l=>br (decide (0≤Aa.wrap (a-2))) (br (decide (Aa.wrap (a-2)<(↑b.length:Int))) (abe (b.getD (Aa.wrap (a-2)).toNat 0) 19 61 6 true true fun m=>br (decide (0≤Aa.wrap (a-7))) (br (decide (Aa.wrap (a-7)<(↑b.length:Int))) (br (decide (0≤Aa.wrap (a-16))) (br (decide (Aa.wrap (a-16)<(↑b.length:Int))) (br (decide ((b.length+1)*8≤140737488355328)) (nx d f g e c (Aa.wrap (a+1)) (b++[bits BinOp.and Ab (Ab.wrap (Ab.wrap (Ab.wrap (m+b.getD (Aa.wrap (a-7)).toNat 0)+l)+b.getD (Aa.wrap (a-16)).toNat 0)) e])) none) none) none) none) none) none) none) none) none) (br (decide (0≤Aa.wrap (a-7))) (br (decide (Aa.wrap (a-7)<(↑b.length:Int))) (br (decide (0≤Aa.wrap (a-16))) (br (decide (Aa.wrap (a-16)<(↑b.length:Int))) (br (decide ((b.length+1)*8≤140737488355328)) (nx d f g e c (Aa.wrap (a+1)) (b++[bits BinOp.and Ab (Ab.wrap (Ab.wrap (Ab.wrap (k+b.getD (Aa.wrap (a-7)).toNat 0)+j)+b.getD (Aa.wrap (a-16)).toNat 0)) e])) none) none) none) none) none)) none) none) none) none)) (h d f g e c a b)
abbrev b6o:=(List Int)×Bool×Int×Int×Int×Int×(List Int)
abbrev clk:=b6o
def ces{ρ:Type}(f:b6o→Option ρ):cnc ρ:=fun b c d e g a h=>f (b,c,d,e,g,a,h)
def b96{ρ:Type}:ab5 b6o clk ρ:=fun (b,c,d,e,f,a,g) next ex=>ajh b c d e f a g (ces next) (ces ex)
def cjo{ρ:Type}:=shut (lp (b96 (ρ:=ρ)))
theorem crs{ρ:Type}:cjo (ρ:=ρ)=lp b96:=bg _
def b6l{ρ:Type}(f:ab6 b6o clk ρ)(b:List Int)(c:Bool)(d e g a:Int)(h:List Int)(i:cnc ρ):Option ρ:=f (b,c,d,e,g,a,h) (fun (b,c,d,e,g,a,h)=>i b c d e g a h)
def aug{ρ:Type}:=b6l (lp (b96 (ρ:=ρ)))
def atw{ρ:Type}:=b6l (cjo (ρ:=ρ))
theorem atp{ρ:Type}:atw (ρ:=ρ)=aug:=congrArg b6l crs
def akn{ρ:Type}(b:List Int)(a:Bool)(c d:Int)(k:(List Int)→Option ρ):Option ρ:=br a (atw b a c d 8 0 [] fun j l m n o p f=>k f) (atw b a c d 4 0 [] fun q r s g h i e=>k e)
def aek{ρ:Type}:=shut (akn (ρ:=ρ))
theorem as9{ρ:Type}(a:List Int)(b:Bool)(c:Int)(d:Int)(k:(List Int)→Option ρ):aek a b c d k=akn a b c d k:=by unfold aek;rw[bg]

end P
end
