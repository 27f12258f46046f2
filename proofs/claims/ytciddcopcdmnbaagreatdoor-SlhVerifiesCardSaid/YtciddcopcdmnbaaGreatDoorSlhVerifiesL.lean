/-
  SlhVerifies, part 12: an interpreter of my own over abstract values, the pure functions, the walks and the plain law.
-/

import Derived.Test.YtciddcopcdmnbaaGreatDoorSlhVerifiesH
import Derived.Test.YtciddcopcdmnbaaGreatDoorSlhVerifiesI
import Derived.Test.YtciddcopcdmnbaaGreatDoorSlhVerifiesK
open Go.IntKind renaming i64 → Aa, u64 → Ab, u32 → Ae, u8 → Af
open List renaming take → Ac, drop → Ad, replicate → Ag

noncomputable section
open Go Go.Abs
set_option linter.unusedVariables false
namespace P

abbrev cco(ρ:Type):=Int→Int→(List Int)→Int→Int→Int→Int→Int→Bool→(List Int)→Int→Int→Int→Int→Int→Bool→(List Int)→(List Int)→Int→Int→Int→Int→Int→Bool→(List Int)→(List Int)→(List Int)→Option ρ
def afm{ρ:Type}(o b:Int)(f:List Int)(c p q d r:Int)(s:Bool)(a:List Int)(g h i j k:Int)(l:Bool)(m n:List Int)(t u v e w:Int)(y:Bool)(z A B:List Int)(nx F:cco ρ):Option ρ:=br (decide (b<o)) (br (decide (0≤b)) (br (decide (b<(↑B.length:Int))) (br (decide (e<0)) none (qp g h i j k l [] m n (bits BinOp.or Ab (Ab.wrap (Ab.wrap b*2^min e.toNat 64)) (Ab.wrap (B.getD b.toNat 0))) a fun C=>br (decide ((f.length+C.length)*1≤140737488355328)) (br (decide (0≤Aa.wrap (c*Aa.wrap (d+1)))) (br (decide (Aa.wrap (c*Aa.wrap (d+1))≤(↑a.length:Int))) (br (decide ((↑a.length:Int)≤(↑a.length:Int))) (nx o (Aa.wrap (b+1)) (f++C) c p q d r s (Ad (Aa.wrap (c*Aa.wrap (d+1))).toNat (Ac (↑a.length:Int).toNat a)) g h i j k l m n t u v e w y z A B) none) none) none) none)) none) none) (F o b f c p q d r s a g h i j k l m n t u v e w y z A B)
abbrev b3i:=Int×Int×(List Int)×Int×Int×Int×Int×Int×Bool×(List Int)×Int×Int×Int×Int×Int×Bool×(List Int)×(List Int)×Int×Int×Int×Int×Int×Bool×(List Int)×(List Int)×(List Int)
abbrev cd4:=b3i
def cf2{ρ:Type}(f:b3i→Option ρ):cco ρ:=fun A B a b c d e g h i j k l m n o p q r s t u v w y z C=>f (A,B,a,b,c,d,e,g,h,i,j,k,l,m,n,o,p,q,r,s,t,u,v,w,y,z,C)
def b5h{ρ:Type}:aed b3i cd4 ρ:=fun (z,A,a,b,c,d,e,f,g,h,i,j,k,l,m,n,o,p,q,r,s,t,u,v,w,y,B) next ex=>afm z A a b c d e f g h i j k l m n o p q r s t u v w y B (cf2 next) (cf2 ex)
def cb4{ρ:Type}:=shut (lp (b5h (ρ:=ρ)))
theorem ch4{ρ:Type}:cb4 (ρ:=ρ)=lp b5h:=cu _
def b6h{ρ:Type}(f:ad4 b3i cd4 ρ)(A B:Int)(a:List Int)(b c d e g:Int)(h:Bool)(i:List Int)(j k l m n:Int)(o:Bool)(p q:List Int)(r s t u v:Int)(w:Bool)(y z C:List Int)(F:cco ρ):Option ρ:=f (A,B,a,b,c,d,e,g,h,i,j,k,l,m,n,o,p,q,r,s,t,u,v,w,y,z,C) (fun (A,B,a,b,c,d,e,g,h,i,j,k,l,m,n,o,p,q,r,s,t,u,v,w,y,z,C)=>F A B a b c d e g h i j k l m n o p q r s t u v w y z C)
def ak2{ρ:Type}:=b6h (lp (b5h (ρ:=ρ)))
def akk{ρ:Type}:=b6h (cb4 (ρ:=ρ))
theorem ap0{ρ:Type}:akk (ρ:=ρ)=ak2:=congrArg b6h ch4
def agp{ρ:Type}(b e f c d:Int)(a:Bool)(h i g j:List Int)(k:(List Int)→Option ρ):Option ρ:=ow b e f c d a fun v w=>jv b e f c d a fun y=>br (!y) (k []) (br ((↑g.length:Int) !=b) (k []) (br ((↑i.length:Int) !=w) (k []) (br ((↑h.length:Int) !=v) (k []) (ny i c d fun l=>akk (↑l.length:Int) 0 [] b e f c d a h b e f c d a g j b e f c d a g j l fun W Z z q7 q8 q9 A B C F m n o p q r s t G H I J M N O Q U=>pz m n o p q r [] s t z fun u=>k u))))
def um{ρ:Type}:=shut (agp (ρ:=ρ))
theorem amz{ρ:Type}(b:Int)(c:Int)(d:Int)(e:Int)(f:Int)(a:Bool)(g:List Int)(h:List Int)(i:List Int)(j:List Int)(k:(List Int)→Option ρ):um b c d e f a g h i j k=agp b c d e f a g h i j k:=by unfold um;rw[cu]

def afy{ρ:Type}(c:List Int)(a b:Int)(k:(List Int)→Option ρ):Option ρ:=jc [0,0,0,0,0,0,0,0,0,0,0,0,0,0,0,0,0,0,0,0,0,0,0,0,0,0,0,0,0,0,0,0] 1 a fun d=>jc d 2 3 fun e=>jc e 3 b fun f=>k f
def xw{ρ:Type}:=shut (afy (ρ:=ρ))
theorem am6{ρ:Type}(a:List Int)(b:Int)(c:Int)(k:(List Int)→Option ρ):xw a b c k=afy a b c k:=by unfold xw;rw[cu]

abbrev ce3(ρ:Type):=(List (List Int))→Int→Int→Int→Int→Int→Int→Int→Bool→Option ρ
def arh{ρ:Type}(h:List (List Int))(i g a b c d e:Int)(f:Bool)(nx j:ce3 ρ)(k:Bool→Int→Int→Int→Int→Int→Bool→Option ρ):Option ρ:=br (decide (g<i)) (br (decide (0≤g)) (br (decide (g<(↑h.length:Int))) (br ((↑(h.getD g.toNat []).length:Int) !=a) (k false a b c d e f) (nx h i (Aa.wrap (g+1)) a b c d e f)) none) none) (j h i g a b c d e f)
abbrev b7y:=(List (List Int))×Int×Int×Int×Int×Int×Int×Int×Bool
abbrev b8o:=((List (List Int))×Int×Int×Int×Int×Int×Int×Int×Bool) ⊕ (Bool×Int×Int×Int×Int×Int×Bool)
def chd{ρ:Type}(f:b7y→Option ρ):ce3 ρ:=fun h i j a b c d e g=>f (h,i,j,a,b,c,d,e,g)
def b2i{ρ:Type}:aed b7y b8o ρ:=fun (g,h,i,a,b,c,d,e,f) next ex=>arh g h i a b c d e f (chd next) (fun g h i a b c d e f=>ex (.inl (g,h,i,a,b,c,d,e,f))) (fun j a b c d e f=>ex (.inr (j,a,b,c,d,e,f)))
def cfm{ρ:Type}:=shut (lp (b2i (ρ:=ρ)))
theorem chh{ρ:Type}:cfm (ρ:=ρ)=lp b2i:=cu _
def b6m{ρ:Type}(f:ad4 b7y b8o ρ)(h:List (List Int))(i j a b c d e:Int)(g:Bool)(k:ce3 ρ)(l:Bool→Int→Int→Int→Int→Int→Bool→Option ρ):Option ρ:=f (h,i,j,a,b,c,d,e,g) (Sum.elim (fun (h,i,j,a,b,c,d,e,g)=>k h i j a b c d e g) (fun x=>l x.1 x.2.1 x.2.2.1 x.2.2.2.1 x.2.2.2.2.1 x.2.2.2.2.2.1 x.2.2.2.2.2.2))
def ay6{ρ:Type}:=b6m (lp (b2i (ρ:=ρ)))
def ay2{ρ:Type}:=b6m (cfm (ρ:=ρ))
theorem bbj{ρ:Type}:ay2 (ρ:=ρ)=ay6:=congrArg b6m chh
def aoo{ρ:Type}(b c d e f:Int)(a:Bool)(g:List (List Int))(k:Bool→Option ρ):Option ρ:=ay2 g (↑g.length:Int) 0 b c d e f a (fun w y z i j l m n o=>jv i j l m n o fun p=>k p) fun h q r s t u v=>k h
def zn{ρ:Type}:=shut (aoo (ρ:=ρ))
theorem ayd{ρ:Type}(b:Int)(c:Int)(d:Int)(e:Int)(f:Int)(a:Bool)(g:List (List Int))(k:Bool→Option ρ):zn b c d e f a g k=aoo b c d e f a g k:=by unfold zn;rw[cu]

def ak1{ρ:Type}(c b d e f:Int)(a:Bool)(i j:Int)(k:Bool→Option ρ):Option ρ:=kr c b d e f a fun g=>br (decide (Aa.wrap (b-g)<0)) none (br (i.fdiv (2^min (Aa.wrap (b-g)).toNat 64)==0) (kr c b d e f a fun h=>br (decide (h<0)) none (k (j.fdiv (2^min h.toNat 64)==0))) (k false))
def ug{ρ:Type}:=shut (ak1 (ρ:=ρ))
theorem ath{ρ:Type}(b:Int)(c:Int)(d:Int)(e:Int)(f:Int)(a:Bool)(g:Int)(h:Int)(k:Bool→Option ρ):ug b c d e f a g h k=ak1 b c d e f a g h k:=by unfold ug;rw[cu]

def aef{ρ:Type}(a r s t u:Int)(n:Bool)(v:Nat)(e:Int)(b:List Int)(o:Int)(m:Bool)(p f:Int)(c g:List Int)(h q i:Int)(d j:List Int)(l:Int)(k:Int→Option ρ):Option ρ:=k (Aa.wrap (Aa.wrap (2*a)+3))
def uw{ρ:Type}:=shut (aef (ρ:=ρ))
theorem aji{ρ:Type}(q:Int)(r:Int)(s:Int)(t:Int)(u:Int)(m:Bool)(v:Nat)(d:Int)(a:List Int)(n:Int)(l:Bool)(o:Int)(e:Int)(b:List Int)(f:List Int)(g:Int)(p:Int)(h:Int)(c:List Int)(i:List Int)(j:Int)(k:Int→Option ρ):uw q r s t u m v d a n l o e b f g p h c i j k=aef q r s t u m v d a n l o e b f g p h c i j k:=by unfold uw;rw[cu]

abbrev cd7(ρ:Type):=Int→Int→Int→(List Int)→Option ρ
def amj{ρ:Type}(d b a:Int)(c:List Int)(nx e:cd7 ρ):Option ρ:=br (decide (a<b)) (br (decide (0≤a)) (br (decide (a<(↑c.length:Int))) (nx (Ae.wrap (d-c.getD a.toNat 0)) b (Aa.wrap (a+1)) c) none) none) (e d b a c)
abbrev b1i:=Int×Int×Int×(List Int)
abbrev b9h:=b1i
def cfr{ρ:Type}(f:b1i→Option ρ):cd7 ρ:=fun c a b d=>f (c,a,b,d)
def b2r{ρ:Type}:aed b1i b9h ρ:=fun (c,a,b,d) next ex=>amj c a b d (cfr next) (cfr ex)
def b86{ρ:Type}:=shut (lp (b2r (ρ:=ρ)))
theorem chx{ρ:Type}:b86 (ρ:=ρ)=lp b2r:=cu _
def b6w{ρ:Type}(f:ad4 b1i b9h ρ)(c a b:Int)(d:List Int)(e:cd7 ρ):Option ρ:=f (c,a,b,d) (fun (c,a,b,d)=>e c a b d)
def atc{ρ:Type}:=b6w (lp (b2r (ρ:=ρ)))
def acz{ρ:Type}:=b6w (b86 (ρ:=ρ))
theorem axb{ρ:Type}:acz (ρ:=ρ)=atc:=congrArg b6w chx
def akq{ρ:Type}(a:Int)(c:List Int)(k:(List Int)→Option ρ):Option ρ:=br (a !=16) (br (a !=24) (br (a !=32) (k []) (br ((↑c.length:Int) !=a) (k []) (ny c 4 (Aa.wrap (2*a)) fun h=>acz (Ae.wrap (Aa.wrap (15*(↑h.length:Int)))) (↑h.length:Int) 0 h fun d o p j=>br (decide ((j.length+([bits BinOp.and Ae (d.fdiv ((2:Int)^4)) (15:Int),bits BinOp.and Ae d (15:Int)].length.add 0).succ)*4≤140737488355328)) (k (j++[d.fdiv (2^8),bits BinOp.and Ae (d.fdiv (2^4)) 15,bits BinOp.and Ae d 15])) none))) (br ((↑c.length:Int) !=a) (k []) (ny c 4 (Aa.wrap (2*a)) fun i=>acz (Ae.wrap (Aa.wrap (15*(↑i.length:Int)))) (↑i.length:Int) 0 i fun e q r l=>br (decide ((l.length+([bits BinOp.and Ae (e.fdiv ((2:Int)^4)) (15:Int),bits BinOp.and Ae e (15:Int)].length.add 0).succ)*4≤140737488355328)) (k (l++[e.fdiv (2^8),bits BinOp.and Ae (e.fdiv (2^4)) 15,bits BinOp.and Ae e 15])) none))) (br ((↑c.length:Int) !=a) (k []) (ny c 4 (Aa.wrap (2*a)) fun f=>acz (Ae.wrap (Aa.wrap (15*(↑f.length:Int)))) (↑f.length:Int) 0 f fun b m n g=>br (decide ((g.length+([bits BinOp.and Ae (b.fdiv ((2:Int)^4)) (15:Int),bits BinOp.and Ae b (15:Int)].length.add 0).succ)*4≤140737488355328)) (k (g++[b.fdiv (2^8),bits BinOp.and Ae (b.fdiv (2^4)) 15,bits BinOp.and Ae b 15])) none))
def aau{ρ:Type}:=shut (akq (ρ:=ρ))
theorem asy{ρ:Type}(a:Int)(b:List Int)(k:(List Int)→Option ρ):aau a b k=akq a b k:=by unfold aau;rw[cu]

abbrev b8e(ρ:Type):=(List Int)→Int→Int→Int→Int→Int→Int→Int→Bool→Nat→Int→(List Int)→Int→Bool→Int→Int→(List Int)→(List Int)→Int→Int→Int→(List Int)→(List Int)→Int→(List Int)→Option ρ
def ae0{ρ:Type}(z:List Int)(y q r s t u v:Int)(w:Bool)(o:Nat)(a:Int)(b:List Int)(c:Int)(d:Bool)(e f:Int)(g h:List Int)(i j k:Int)(l m:List Int)(n:Int)(p:List Int)(nx B:b8e ρ):Option ρ:=br (decide (q<y)) (jc p 5 (Ab.wrap q) fun A=>br (decide (o=1)) (jo A z a b c d e fun C=>nx C y (Ae.wrap (q+1)) r s t u v w o a b c d e f g h i j k l m n p) (br (decide (o=2)) (jq A z f g h i j k l m n fun F=>nx F y (Ae.wrap (q+1)) r s t u v w o a b c d e f g h i j k l m n p) none)) (B z y q r s t u v w o a b c d e f g h i j k l m n p)
abbrev b06:=(List Int)×Int×Int×Int×Int×Int×Int×Int×Bool×Nat×Int×(List Int)×Int×Bool×Int×Int×(List Int)×(List Int)×Int×Int×Int×(List Int)×(List Int)×Int×(List Int)
abbrev b97:=b06
def cb8{ρ:Type}(f:b06→Option ρ):b8e ρ:=fun z A y p q r s t u v a b c d e g h i j k l m n o w=>f (z,A,y,p,q,r,s,t,u,v,a,b,c,d,e,g,h,i,j,k,l,m,n,o,w)
def b3s{ρ:Type}:aed b06 b97 ρ:=fun (y,z,w,o,p,q,r,s,t,u,a,b,c,d,e,f,g,h,i,j,k,l,m,n,v) next ex=>ae0 y z w o p q r s t u a b c d e f g h i j k l m n v (cb8 next) (cb8 ex)
def cfd{ρ:Type}:=shut (lp (b3s (ρ:=ρ)))
theorem chc{ρ:Type}:cfd (ρ:=ρ)=lp b3s:=cu _
def b7r{ρ:Type}(f:ad4 b06 b97 ρ)(z:List Int)(A y p q r s t:Int)(u:Bool)(v:Nat)(a:Int)(b:List Int)(c:Int)(d:Bool)(e g:Int)(h i:List Int)(j k l:Int)(m n:List Int)(o:Int)(w:List Int)(B:b8e ρ):Option ρ:=f (z,A,y,p,q,r,s,t,u,v,a,b,c,d,e,g,h,i,j,k,l,m,n,o,w) (fun (z,A,y,p,q,r,s,t,u,v,a,b,c,d,e,g,h,i,j,k,l,m,n,o,w)=>B z A y p q r s t u v a b c d e g h i j k l m n o w)
def ajg{ρ:Type}:=b7r (lp (b3s (ρ:=ρ)))
def ajk{ρ:Type}:=b7r (cfd (ρ:=ρ))
theorem an0{ρ:Type}:ajk (ρ:=ρ)=ajg:=congrArg b7r chc
def adl{ρ:Type}(q r s t u:Int)(m:Bool)(v:Nat)(d:Int)(a:List Int)(n:Int)(l:Bool)(o e:Int)(b f:List Int)(g p h:Int)(c i:List Int)(j:Int)(w y:List Int)(z A:Int)(k:(List Int)→Option ρ):Option ρ:=ajk y A z q r s t u m v d a n l o e b f g p h c i j w fun B q1 q2 q3 q4 q5 q6 q7 q8 q9 C F G H I J M N O Q U W Z aa ab=>k B
def uz{ρ:Type}:=shut (adl (ρ:=ρ))
theorem aja{ρ:Type}(q:Int)(r:Int)(s:Int)(t:Int)(u:Int)(m:Bool)(v:Nat)(d:Int)(a:List Int)(n:Int)(l:Bool)(o:Int)(e:Int)(b:List Int)(f:List Int)(g:Int)(p:Int)(h:Int)(c:List Int)(i:List Int)(j:Int)(w:List Int)(y:List Int)(z:Int)(A:Int)(k:(List Int)→Option ρ):uz q r s t u m v d a n l o e b f g p h c i j w y z A k=adl q r s t u m v d a n l o e b f g p h c i j w y z A k:=by unfold uz;rw[cu]

def akx{ρ:Type}(b:List Int)(a:Int)(k:Int→Option ρ):Option ρ:=br (decide (0≤Aa.wrap (8+Aa.wrap (4*a)))) (br (decide (Aa.wrap (8+Aa.wrap (4*a))≤Aa.wrap (12+Aa.wrap (4*a)))) (br (decide (Aa.wrap (12+Aa.wrap (4*a))≤(↑32:Int))) (uy (Ac (Aa.wrap (12+Aa.wrap (4*a))-Aa.wrap (8+Aa.wrap (4*a))).toNat (Ad (Aa.wrap (8+Aa.wrap (4*a))).toNat b)) fun c=>k c) none) none) none
def zy{ρ:Type}:=shut (akx (ρ:=ρ))
theorem asz{ρ:Type}(a:List Int)(b:Int)(k:Int→Option ρ):zy a b k=akx a b k:=by unfold zy;rw[cu]

def afi{ρ:Type}(r s t u v:Int)(q:Bool)(n:Nat)(d:Int)(a:List Int)(m:Int)(l:Bool)(o e:Int)(b f:List Int)(g p h:Int)(c i:List Int)(j:Int)(w y:List Int)(k:(List Int)→Option ρ):Option ρ:=jc y 2 1 fun A=>zy y 3 fun B=>jc A 3 B fun z=>br (decide (n=1)) (jo z w d a m l o fun C=>k C) (br (decide (n=2)) (jq z w e b f g p h c i j fun F=>k F) none)
def yu{ρ:Type}:=shut (afi (ρ:=ρ))
theorem alg{ρ:Type}(q:Int)(r:Int)(s:Int)(t:Int)(u:Int)(m:Bool)(v:Nat)(d:Int)(a:List Int)(n:Int)(l:Bool)(o:Int)(e:Int)(b:List Int)(f:List Int)(g:Int)(p:Int)(h:Int)(c:List Int)(i:List Int)(j:Int)(w:List Int)(y:List Int)(k:(List Int)→Option ρ):yu q r s t u m v d a n l o e b f g p h c i j w y k=afi q r s t u m v d a n l o e b f g p h c i j w y k:=by unfold yu;rw[cu]

abbrev cbb(ρ:Type):=(List Int)→Int→Int→(List Int)→Int→Int→Int→Int→Int→Bool→(List Int)→Int→Int→Int→Int→Int→Bool→Nat→Int→(List Int)→Int→Bool→Int→Int→(List Int)→(List Int)→Int→Int→Int→(List Int)→(List Int)→Int→(List Int)→Option ρ
def ahh{ρ:Type}(q:List Int)(A p:Int)(J:List Int)(a B C F G:Int)(H:Bool)(r:List Int)(s t u v w:Int)(y:Bool)(z:Nat)(b:Int)(c:List Int)(d:Int)(e:Bool)(f g:Int)(h i:List Int)(j k l:Int)(m n:List Int)(o:Int)(I:List Int)(nx N:cbb ρ):Option ρ:=br (decide (p<A)) (br (decide (0≤p)) (br (decide (p<(↑I.length:Int))) (jc r 4 (Ab.wrap p) fun O=>br (decide (0≤a)) (br (decide (a≤(↑q.length:Int))) (uz s t u v w y z b c d e f g h i j k l m n o O (Ad 0 (Ac a.toNat q)) (I.getD p.toNat 0) 15 fun M=>br (decide ((J.length+M.length)*1≤140737488355328)) (br (decide (0≤a)) (br (decide (a≤(↑q.length:Int))) (br (decide ((↑q.length:Int)≤(↑q.length:Int))) (nx (Ad a.toNat (Ac (↑q.length:Int).toNat q)) A (Aa.wrap (p+1)) (J++M) a B C F G H r s t u v w y z b c d e f g h i j k l m n o I) none) none) none) none) none) none) none) none) (N q A p J a B C F G H r s t u v w y z b c d e f g h i j k l m n o I)
abbrev b0w:=(List Int)×Int×Int×(List Int)×Int×Int×Int×Int×Int×Bool×(List Int)×Int×Int×Int×Int×Int×Bool×Nat×Int×(List Int)×Int×Bool×Int×Int×(List Int)×(List Int)×Int×Int×Int×(List Int)×(List Int)×Int×(List Int)
abbrev cdo:=b0w
def cai{ρ:Type}(f:b0w→Option ρ):cbb ρ:=fun I G H J p q r s t u v w y z A B C F a b c d e g h i j k l m n o M=>f (I,G,H,J,p,q,r,s,t,u,v,w,y,z,A,B,C,F,a,b,c,d,e,g,h,i,j,k,l,m,n,o,M)
def b4a{ρ:Type}:aed b0w cdo ρ:=fun (H,F,G,I,o,p,q,r,s,t,u,v,w,y,z,A,B,C,a,b,c,d,e,f,g,h,i,j,k,l,m,n,J) next ex=>ahh H F G I o p q r s t u v w y z A B C a b c d e f g h i j k l m n J (cai next) (cai ex)
def cga{ρ:Type}:=shut (lp (b4a (ρ:=ρ)))
theorem cil{ρ:Type}:cga (ρ:=ρ)=lp b4a:=cu _
def b72{ρ:Type}(f:ad4 b0w cdo ρ)(I:List Int)(G H:Int)(J:List Int)(p q r s t:Int)(u:Bool)(v:List Int)(w y z A B:Int)(C:Bool)(F:Nat)(a:Int)(b:List Int)(c:Int)(d:Bool)(e g:Int)(h i:List Int)(j k l:Int)(m n:List Int)(o:Int)(M:List Int)(N:cbb ρ):Option ρ:=f (I,G,H,J,p,q,r,s,t,u,v,w,y,z,A,B,C,F,a,b,c,d,e,g,h,i,j,k,l,m,n,o,M) (fun (I,G,H,J,p,q,r,s,t,u,v,w,y,z,A,B,C,F,a,b,c,d,e,g,h,i,j,k,l,m,n,o,M)=>N I G H J p q r s t u v w y z A B C F a b c d e g h i j k l m n o M)
def ano{ρ:Type}:=b72 (lp (b4a (ρ:=ρ)))
def ana{ρ:Type}:=b72 (cga (ρ:=ρ))
theorem asj{ρ:Type}:ana (ρ:=ρ)=ano:=congrArg b72 cil
def agb{ρ:Type}(a c d e f:Int)(b:Bool)(t u a3 a4:List Int)(k:(List Int)→Option ρ):Option ρ:=abk a c d e f b a3 fun v w y z A B C F G H g h i j l m n o p q r I=>br (!I) (k []) (br ((↑u.length:Int) !=a) (k []) (uw v w y z A B C F G H g h i j l m n o p q r fun J=>br ((↑t.length:Int) !=Aa.wrap (a*J)) (k []) (aau a u fun s=>ana t (↑s.length:Int) 0 [] a c d e f b a4 v w y z A B C F G H g h i j l m n o p q r s fun ar au av M aw ax ay az a0 a5 N O Q U W Z aa ab ac ad ae af ag ah ai aj ak al am an ao ap a6=>yu O Q U W Z aa ab ac ad ae af ag ah ai aj ak al am an ao ap M N fun aq=>k aq)))
def vv{ρ:Type}:=shut (agb (ρ:=ρ))
theorem am9{ρ:Type}(b:Int)(c:Int)(d:Int)(e:Int)(f:Int)(a:Bool)(g:List Int)(h:List Int)(i:List Int)(j:List Int)(k:(List Int)→Option ρ):vv b c d e f a g h i j k=agb b c d e f a g h i j k:=by unfold vv;rw[cu]

def af9{ρ:Type}(d e f g h:Int)(a:Bool)(c i b:List Int)(j:Int)(k:(List Int)→Option ρ):Option ρ:=jc b 2 0 fun l=>jc l 3 j fun m=>k m
def z8{ρ:Type}:=shut (af9 (ρ:=ρ))
theorem anm{ρ:Type}(c:Int)(d:Int)(e:Int)(f:Int)(g:Int)(a:Bool)(b:List Int)(h:List Int)(i:List Int)(j:Int)(k:(List Int)→Option ρ):z8 c d e f g a b h i j k=af9 c d e f g a b h i j k:=by unfold z8;rw[cu]

def agk{ρ:Type}(b c d e f:Int)(a:Bool)(i g h:List Int)(j l:Int)(m n:List Int)(k:(List Int)→Option ρ):Option ρ:=jc h 2 2 fun o=>jc o 4 (Ab.wrap j) fun p=>jc p 5 l fun q=>jd [m,n] fun r=>aao b c d e f a g q r fun s=>k s
def x9{ρ:Type}:=shut (agk (ρ:=ρ))
theorem amv{ρ:Type}(c:Int)(d:Int)(e:Int)(f:Int)(g:Int)(a:Bool)(b:List Int)(h:List Int)(i:List Int)(j:Int)(l:Int)(m:List Int)(n:List Int)(k:(List Int)→Option ρ):x9 c d e f g a b h i j l m n k=agk c d e f g a b h i j l m n k:=by unfold x9;rw[cu]

abbrev cc1(ρ:Type):=Int→(List Int)→(List Int)→Int→Int→Int→Int→Int→Int→Int→Bool→Int→Int→Int→Int→Int→Bool→(List Int)→(List Int)→Option ρ
def ahk{ρ:Type}(r:Int)(s b:List Int)(q c a l m n o:Int)(p:Bool)(d e f g h:Int)(i:Bool)(j k:List Int)(nx t:cc1 ρ):Option ρ:=br (decide (c<q)) (br (decide ((0:Int)≤a)) (br (decide (a≤(↑b.length:Int))) (br (decide (c<(0:Int))) none (br (bits BinOp.and Ab (r.fdiv ((2:Int)^min c.toNat 64)) (1:Int)==(1:Int)) (br (decide (Aa.wrap (c+(1:Int))<(0:Int))) none (x9 d e f g h i [] j k (Aa.wrap (c+(1:Int))) (r.fdiv ((2:Int)^min (Aa.wrap (c+(1:Int))).toNat 64)) (Ad 0 (Ac a.toNat b)) s fun u=>br (decide ((0:Int)≤a)) (br (decide (a≤(↑b.length:Int))) (br (decide ((↑b.length:Int)≤(↑b.length:Int))) (nx r u (Ad a.toNat (Ac (↑b.length:Int).toNat b)) q (Aa.wrap (c+(1:Int))) a l m n o p d e f g h i j k) none) none) none)) (br (decide (Aa.wrap (c+(1:Int))<(0:Int))) none (x9 d e f g h i [] j k (Aa.wrap (c+(1:Int))) (r.fdiv ((2:Int)^min (Aa.wrap (c+(1:Int))).toNat 64)) s (Ad 0 (Ac a.toNat b)) fun v=>br (decide ((0:Int)≤a)) (br (decide (a≤(↑b.length:Int))) (br (decide ((↑b.length:Int)≤(↑b.length:Int))) (nx r v (Ad a.toNat (Ac (↑b.length:Int).toNat b)) q (Aa.wrap (c+(1:Int))) a l m n o p d e f g h i j k) none) none) none)))) none) none) (t r s b q c a l m n o p d e f g h i j k)
abbrev b5s:=Int×(List Int)×(List Int)×Int×Int×Int×Int×Int×Int×Int×Bool×Int×Int×Int×Int×Int×Bool×(List Int)×(List Int)
abbrev cbd:=b5s
def cbo{ρ:Type}(f:b5s→Option ρ):cc1 ρ:=fun t p q r s a b c d e g h i j k l m n o=>f (t,p,q,r,s,a,b,c,d,e,g,h,i,j,k,l,m,n,o)
def b2a{ρ:Type}:aed b5s cbd ρ:=fun (s,o,p,q,r,a,b,c,d,e,f,g,h,i,j,k,l,m,n) next ex=>ahk s o p q r a b c d e f g h i j k l m n (cbo next) (cbo ex)
def ceq{ρ:Type}:=shut (lp (b2a (ρ:=ρ)))
theorem cgm{ρ:Type}:ceq (ρ:=ρ)=lp b2a:=cu _
def b6e{ρ:Type}(f:ad4 b5s cbd ρ)(t:Int)(p q:List Int)(r s a b c d e:Int)(g:Bool)(h i j k l:Int)(m:Bool)(n o:List Int)(u:cc1 ρ):Option ρ:=f (t,p,q,r,s,a,b,c,d,e,g,h,i,j,k,l,m,n,o) (fun (t,p,q,r,s,a,b,c,d,e,g,h,i,j,k,l,m,n,o)=>u t p q r s a b c d e g h i j k l m n o)
def am0{ρ:Type}:=b6e (lp (b2a (ρ:=ρ)))
def anc{ρ:Type}:=b6e (ceq (ρ:=ρ))
theorem asi{ρ:Type}:anc (ρ:=ρ)=am0:=congrArg b6e cgm
def ag3{ρ:Type}(b c d e f:Int)(a:Bool)(g l i m:List Int)(j:Int)(k:(List Int)→Option ρ):Option ρ:=zn b c d e f a [i,l] fun o=>br (!o) (k []) (o7 b c d e f a fun p=>br ((↑g.length:Int) !=p) (k []) (kr b c d e f a fun n=>br (decide (n<0)) none (br (j.fdiv (2^min n.toNat 64) !=0) (k []) (kr b c d e f a fun h=>br (decide (0≤Aa.wrap ((↑g.length:Int)-Aa.wrap (b*h)))) (br (decide (Aa.wrap ((↑g.length:Int)-Aa.wrap (b*h))≤(↑g.length:Int))) (z8 b c d e f a [] i m j fun q=>vv b c d e f a (Ad 0 (Ac (Aa.wrap ((↑g.length:Int)-Aa.wrap (b*h))).toNat g)) l i q fun r=>br (decide (0≤Aa.wrap ((↑g.length:Int)-Aa.wrap (b*h)))) (br (decide (Aa.wrap ((↑g.length:Int)-Aa.wrap (b*h))≤(↑g.length:Int))) (br (decide ((↑g.length:Int)≤(↑g.length:Int))) (kr b c d e f a fun s=>anc j r (Ad (Aa.wrap ((↑g.length:Int)-Aa.wrap (b*h))).toNat (Ac (↑g.length:Int).toNat g)) s 0 b c d e f a b c d e f a i m fun Q t U u v w y z A B C F G H I J M N O=>k t) none) none) none) none) none))))
def l8{ρ:Type}:=shut (ag3 (ρ:=ρ))
theorem amw{ρ:Type}(b:Int)(c:Int)(d:Int)(e:Int)(f:Int)(a:Bool)(g:List Int)(h:List Int)(i:List Int)(j:List Int)(l:Int)(k:(List Int)→Option ρ):l8 b c d e f a g h i j l k=ag3 b c d e f a g h i j l k:=by unfold l8;rw[cu]

abbrev cd8(ρ:Type):=(List Int)→(List Int)→Int→Int→Int→Option ρ
def aqf{ρ:Type}(c d:List Int)(e b a:Int)(nx f:cd8 ρ):Option ρ:=br (decide (a<b)) (br (decide (0≤a)) (br (decide (a<(↑c.length:Int))) (br (decide (0≤a)) (br (decide (a<(↑d.length:Int))) (nx c d (bits BinOp.or Af e (bits BinOp.xor Af (c.getD a.toNat 0) (d.getD a.toNat 0))) b (Aa.wrap (a+1))) none) none) none) none) (f c d e b a)
abbrev b3x:=(List Int)×(List Int)×Int×Int×Int
abbrev cc3:=b3x
def b84{ρ:Type}(f:b3x→Option ρ):cd8 ρ:=fun c d e a b=>f (c,d,e,a,b)
def b3f{ρ:Type}:aed b3x cc3 ρ:=fun (c,d,e,a,b) next ex=>aqf c d e a b (b84 next) (b84 ex)
def cfi{ρ:Type}:=shut (lp (b3f (ρ:=ρ)))
theorem cis{ρ:Type}:cfi (ρ:=ρ)=lp b3f:=cu _
def b61{ρ:Type}(f:ad4 b3x cc3 ρ)(c d:List Int)(e a b:Int)(g:cd8 ρ):Option ρ:=f (c,d,e,a,b) (fun (c,d,e,a,b)=>g c d e a b)
def ay0{ρ:Type}:=b61 (lp (b3f (ρ:=ρ)))
def ayj{ρ:Type}:=b61 (cfi (ρ:=ρ))
theorem bbe{ρ:Type}:ayj (ρ:=ρ)=ay0:=congrArg b61 cis
def an3{ρ:Type}(a b:List Int)(k:Bool→Option ρ):Option ρ:=br ((↑a.length:Int) !=(↑b.length:Int)) (k false) (ayj a b 0 (↑a.length:Int) 0 fun d e c f g=>k (c==0))
def aag{ρ:Type}:=shut (an3 (ρ:=ρ))
theorem azf{ρ:Type}(a:List Int)(b:List Int)(k:Bool→Option ρ):aag a b k=an3 a b k:=by unfold aag;rw[cu]

abbrev cfu(ρ:Type):=(List Int)→Int→Int→Int→Int→Int→Int→Int→Bool→(List Int)→(List Int)→(List Int)→Int→Int→Int→Int→Int→Bool→Int→Int→Option ρ
def ai9{ρ:Type}(p:List Int)(t s b c d e f:Int)(g:Bool)(q a o:List Int)(h i j k l:Int)(m:Bool)(n r:Int)(nx z:cfu ρ):Option ρ:=br (decide (s<t)) (jc [0,0,0,0,0,0,0,0,0,0,0,0,0,0,0,0,0,0,0,0,0,0,0,0,0,0,0,0,0,0,0,0] 0 (Ab.wrap s) fun A=>jc A 1 n fun B=>o7 b c d e f g fun u=>br (decide (0≤u)) (br (decide (u≤(↑a.length:Int))) (l8 b c d e f g (Ad 0 (Ac u.toNat a)) q o B r fun C=>o7 b c d e f g fun v=>br (decide (0≤v)) (br (decide (v≤(↑a.length:Int))) (br (decide ((↑a.length:Int)≤(↑a.length:Int))) (kr h i j k l m fun w=>br (decide (w<0)) none (kr h i j k l m fun y=>br (decide (y<0)) none (nx p t (Aa.wrap (s+1)) b c d e f g C (Ad v.toNat (Ac (↑a.length:Int).toNat a)) o h i j k l m (n.fdiv (2^min y.toNat 64)) (bits BinOp.and Ab n (Ab.wrap (Ab.wrap (1*2^min w.toNat 64)-1)))))) none) none) none) none) none) (z p t s b c d e f g q a o h i j k l m n r)
abbrev b1b:=(List Int)×Int×Int×Int×Int×Int×Int×Int×Bool×(List Int)×(List Int)×(List Int)×Int×Int×Int×Int×Int×Bool×Int×Int
abbrev cbh:=b1b
def cak{ρ:Type}(f:b1b→Option ρ):cfu ρ:=fun a t u b c d e g h i j k l m n o p q r s=>f (a,t,u,b,c,d,e,g,h,i,j,k,l,m,n,o,p,q,r,s)
def b3e{ρ:Type}:aed b1b cbh ρ:=fun (a,s,t,b,c,d,e,f,g,h,i,j,k,l,m,n,o,p,q,r) next ex=>ai9 a s t b c d e f g h i j k l m n o p q r (cak next) (cak ex)
def b9i{ρ:Type}:=shut (lp (b3e (ρ:=ρ)))
theorem cgi{ρ:Type}:b9i (ρ:=ρ)=lp b3e:=cu _
def b7b{ρ:Type}(f:ad4 b1b cbh ρ)(a:List Int)(t u b c d e g:Int)(h:Bool)(i j k:List Int)(l m n o p:Int)(q:Bool)(r s:Int)(v:cfu ρ):Option ρ:=f (a,t,u,b,c,d,e,g,h,i,j,k,l,m,n,o,p,q,r,s) (fun (a,t,u,b,c,d,e,g,h,i,j,k,l,m,n,o,p,q,r,s)=>v a t u b c d e g h i j k l m n o p q r s)
def ao8{ρ:Type}:=b7b (lp (b3e (ρ:=ρ)))
def apd{ρ:Type}:=b7b (b9i (ρ:=ρ))
theorem ati{ρ:Type}:apd (ρ:=ρ)=ao8:=congrArg b7b cgi
def akv{ρ:Type}(c d b e f:Int)(a:Bool)(h i j g:List Int)(l m:Int)(k:Bool→Option ρ):Option ρ:=zn c d b e f a [h,j,g] fun p=>br (!p) (k false) (o7 c d b e f a fun q=>br ((↑i.length:Int) !=Aa.wrap (b*q)) (k false) (ug c d b e f a l m fun r=>br (!r) (k false) (apd g b 0 c d b e f a h i j c d b e f a l m fun H I J M N O Q s t n u v w y z A B C F G=>aag n g fun o=>k o)))
def aak{ρ:Type}:=shut (akv (ρ:=ρ))
theorem asx{ρ:Type}(b:Int)(c:Int)(d:Int)(e:Int)(f:Int)(a:Bool)(g:List Int)(h:List Int)(i:List Int)(j:List Int)(l:Int)(m:Int)(k:Bool→Option ρ):aak b c d e f a g h i j l m k=akv b c d e f a g h i j l m k:=by unfold aak;rw[cu]

def aas{ρ:Type}(a d e f g:Int)(b:Bool)(h a2 n c:List Int)(k:Int→Option ρ):Option ρ:=aby a d e f g b fun q0 q1 q2=>jv a d e f g b fun q3=>br (!q3) (k 9) (br ((↑h.length:Int) !=Aa.wrap (2*a)) (k 10) (br (decide ((↑n.length:Int)>255)) (k 2) (br ((↑c.length:Int) !=q2) (k 1) (ow a d e f g b fun i q5=>br (decide (0≤a)) (br (decide (a≤(↑h.length:Int))) (br (decide (0≤a)) (br (decide (a≤(↑h.length:Int))) (br (decide ((↑h.length:Int)≤(↑h.length:Int))) (br (decide (0≤a)) (br (decide (a≤(↑c.length:Int))) (br (decide (0≤a)) (br (decide (a≤(↑c.length:Int))) (br (decide ((↑c.length:Int)≤(↑c.length:Int))) (ae4 a d e f g b fun q6 q7 q8 q9 o p q r s t u v w y z A B C F G H I J M N O Q U=>af3 a2 n fun W=>wh q6 q7 q8 q9 o p q r s t u v w y z A B C F G H I J M N O Q U (Ad 0 (Ac a.toNat c)) h W fun j l m=>br (decide (0≤i)) (br (decide (i≤(↑(Ad a.toNat (Ac (↑c.length:Int).toNat c)).length:Int))) (xw j l m fun Z=>um a d e f g b (Ad 0 (Ac i.toNat (Ad a.toNat (Ac (↑c.length:Int).toNat c)))) j (Ad 0 (Ac a.toNat h)) Z fun aa=>br (decide (0≤i)) (br (decide (i≤(↑(Ad a.toNat (Ac (↑c.length:Int).toNat c)).length:Int))) (br (decide ((↑(Ad a.toNat (Ac (↑c.length:Int).toNat c)).length:Int)≤(↑(Ad a.toNat (Ac (↑c.length:Int).toNat c)).length:Int))) (aak a d e f g b aa (Ad i.toNat (Ac (↑(Ad a.toNat (Ac (↑c.length:Int).toNat c)).length:Int).toNat (Ad a.toNat (Ac (↑c.length:Int).toNat c)))) (Ad 0 (Ac a.toNat h)) (Ad a.toNat (Ac (↑h.length:Int).toNat h)) l m fun ab=>br (!ab) (k 11) (k 0)) none) none) none) none) none) none) none) none) none) none) none) none) none) none) none))))
def ze{ρ:Type}:=shut (aas (ρ:=ρ))
theorem acr{ρ:Type}(b:Int)(c:Int)(d:Int)(e:Int)(f:Int)(a:Bool)(g:List Int)(h:List Int)(i:List Int)(j:List Int)(k:Int→Option ρ):ze b c d e f a g h i j k=aas b c d e f a g h i j k:=by unfold ze;rw[cu]

def uh{ρ:Type}(a:Int)(k:Int→Int→Int→Int→Int→Bool→Bool→Option ρ):Option ρ:=br (decide (a<(1:Int))) (k (0:Int) (0:Int) (0:Int) (0:Int) (0:Int) false false) (br (decide (a>(12:Int))) (k (0:Int) (0:Int) (0:Int) (0:Int) (0:Int) false false) (br (decide ((0:Int)≤Aa.wrap ((Aa.wrap (a-(1:Int))).tdiv (2:Int)))) (br (decide (Aa.wrap ((Aa.wrap (a-(1:Int))).tdiv (2:Int))<(↑6:Int))) (br (decide ((Aa.wrap ((Aa.wrap (a-(1:Int))).tdiv (2:Int))).toNat*5+5≤30)) (k ((Ac 5 (Ad ((Aa.wrap ((Aa.wrap (a-(1:Int))).tdiv (2:Int))).toNat*5) [(16:Int),(63:Int),(7:Int),(12:Int),(14:Int),(16:Int),(66:Int),(22:Int),(6:Int),(33:Int),(24:Int),(63:Int),(7:Int),(14:Int),(17:Int),(24:Int),(66:Int),(22:Int),(8:Int),(33:Int),(32:Int),(64:Int),(8:Int),(14:Int),(22:Int),(32:Int),(68:Int),(17:Int),(9:Int),(35:Int)])).getD 0 (0:Int)) ((Ac 5 (Ad ((Aa.wrap ((Aa.wrap (a-(1:Int))).tdiv (2:Int))).toNat*5) [(16:Int),(63:Int),(7:Int),(12:Int),(14:Int),(16:Int),(66:Int),(22:Int),(6:Int),(33:Int),(24:Int),(63:Int),(7:Int),(14:Int),(17:Int),(24:Int),(66:Int),(22:Int),(8:Int),(33:Int),(32:Int),(64:Int),(8:Int),(14:Int),(22:Int),(32:Int),(68:Int),(17:Int),(9:Int),(35:Int)])).getD 1 (0:Int)) ((Ac 5 (Ad ((Aa.wrap ((Aa.wrap (a-(1:Int))).tdiv (2:Int))).toNat*5) [(16:Int),(63:Int),(7:Int),(12:Int),(14:Int),(16:Int),(66:Int),(22:Int),(6:Int),(33:Int),(24:Int),(63:Int),(7:Int),(14:Int),(17:Int),(24:Int),(66:Int),(22:Int),(8:Int),(33:Int),(32:Int),(64:Int),(8:Int),(14:Int),(22:Int),(32:Int),(68:Int),(17:Int),(9:Int),(35:Int)])).getD 2 (0:Int)) ((Ac 5 (Ad ((Aa.wrap ((Aa.wrap (a-(1:Int))).tdiv (2:Int))).toNat*5) [(16:Int),(63:Int),(7:Int),(12:Int),(14:Int),(16:Int),(66:Int),(22:Int),(6:Int),(33:Int),(24:Int),(63:Int),(7:Int),(14:Int),(17:Int),(24:Int),(66:Int),(22:Int),(8:Int),(33:Int),(32:Int),(64:Int),(8:Int),(14:Int),(22:Int),(32:Int),(68:Int),(17:Int),(9:Int),(35:Int)])).getD 3 (0:Int)) ((Ac 5 (Ad ((Aa.wrap ((Aa.wrap (a-(1:Int))).tdiv (2:Int))).toNat*5) [(16:Int),(63:Int),(7:Int),(12:Int),(14:Int),(16:Int),(66:Int),(22:Int),(6:Int),(33:Int),(24:Int),(63:Int),(7:Int),(14:Int),(17:Int),(24:Int),(66:Int),(22:Int),(8:Int),(33:Int),(32:Int),(64:Int),(8:Int),(14:Int),(22:Int),(32:Int),(68:Int),(17:Int),(9:Int),(35:Int)])).getD 4 (0:Int)) (a.tmod (2:Int)==(0:Int)) true) none) none) none))
def ai4{ρ:Type}:=shut (uh (ρ:=ρ))
theorem ar4{ρ:Type}(a:Int)(k:Int→Int→Int→Int→Int→Bool→Bool→Option ρ):ai4 a k=uh a k:=by unfold ai4;rw[cu]

def aok{ρ:Type}(k:Bool→Option ρ):Option ρ:=ai4 3 fun a b c d e f h=>aby a b c d e f fun j l i=>br h (br (a==16&&(b==66&&(c==22&&(d==6&&(e==33&&(f==false&&true)))))) (br (i==17088) (ze a b c d e f [] [] [] [] fun g=>k (g==10)) (k false)) (k false)) (k false)
def tu{ρ:Type}:=shut (aok (ρ:=ρ))
theorem ay7{ρ:Type}  (k:Bool→Option ρ):tu  k=aok  k:=by unfold tu;rw[cu]

abbrev cc5(ρ:Type):=(List (List Int))→Int→Int→Option ρ
def am5{ρ:Type}(b:List (List Int))(c a:Int)(nx d:cc5 ρ)(e:Bool→Option ρ):Option ρ:=br (decide (a<c)) (br (decide (0≤a)) (br (decide (a<(↑b.length:Int))) (br (decide ((↑(b.getD a.toNat []).length:Int)>300)) (e false) (nx b c (Aa.wrap (a+1)))) none) none) (d b c a)
abbrev b6p:=(List (List Int))×Int×Int
abbrev cbt:=((List (List Int))×Int×Int) ⊕ (Bool)
def cgs{ρ:Type}(f:b6p→Option ρ):cc5 ρ:=fun a b c=>f (a,b,c)
def b41{ρ:Type}:aed b6p cbt ρ:=fun (a,b,c) next ex=>am5 a b c (cgs next) (fun a b c=>ex (.inl (a,b,c))) (fun d=>ex (.inr d))
def ca2{ρ:Type}:=shut (lp (b41 (ρ:=ρ)))
theorem ch8{ρ:Type}:ca2 (ρ:=ρ)=lp b41:=cu _
def b6q{ρ:Type}(f:ad4 b6p cbt ρ)(a:List (List Int))(b c:Int)(d:cc5 ρ)(e:Bool→Option ρ):Option ρ:=f (a,b,c) (Sum.elim (fun (a,b,c)=>d a b c) (fun x=>e x))
def bff{ρ:Type}:=b6q (lp (b41 (ρ:=ρ)))
def bd4{ρ:Type}:=b6q (ca2 (ρ:=ρ))
theorem bh0{ρ:Type}:bd4 (ρ:=ρ)=bff:=congrArg b6q ch8
def auu{ρ:Type}(a:List (List Int))(k:Bool→Option ρ):Option ρ:=bd4 a (↑a.length:Int) 0 (fun c d e=>k true) fun b=>k b
def af6{ρ:Type}:=shut (auu (ρ:=ρ))
theorem bfg{ρ:Type}(a:List (List Int))(k:Bool→Option ρ):af6 a k=auu a k:=by unfold af6;rw[cu]

def aqb{ρ:Type}(d e f a b:Int)(c:Bool)(k:Int→Int→Option ρ):Option ρ:=lg d e f a b c fun g=>br (!g) (k 0 0) (k (Aa.wrap (Aa.wrap (d*b)*Aa.wrap (a+1))) (Aa.wrap ((Aa.wrap (Aa.wrap (b*a)+7)).tdiv 8)))
def xg{ρ:Type}:=shut (aqb (ρ:=ρ))
theorem bbn{ρ:Type}(b:Int)(c:Int)(d:Int)(e:Int)(f:Int)(a:Bool)(k:Int→Int→Option ρ):xg b c d e f a k=aqb b c d e f a k:=by unfold xg;rw[cu]

def ard{ρ:Type}(a d b e f:Int)(c:Bool)(k:Int→Option ρ):Option ρ:=lg a d b e f c fun g=>br (!g) (k 0) (br (decide (b=0)) none (k (Aa.wrap (a*Aa.wrap (Aa.wrap (Aa.wrap (2*a)+3)+Aa.wrap (d.tdiv b))))))
def zi{ρ:Type}:=shut (ard (ρ:=ρ))
theorem bah{ρ:Type}(b:Int)(c:Int)(d:Int)(e:Int)(f:Int)(a:Bool)(k:Int→Option ρ):zi b c d e f a k=ard b c d e f a k:=by unfold zi;rw[cu]

def agi{ρ:Type}(b d c e f:Int)(a:Bool)(k:Int→Int→Int→Option ρ):Option ρ:=lg b d c e f a fun g=>br (!g) (k 0 0 0) (xg b d c e f a fun h j=>zi b d c e f a fun i=>k (Aa.wrap (2*b)) (Aa.wrap (4*b)) (Aa.wrap (Aa.wrap (b+h)+Aa.wrap (c*i))))
def ae8{ρ:Type}:=shut (agi (ρ:=ρ))
theorem ala{ρ:Type}(b:Int)(c:Int)(d:Int)(e:Int)(f:Int)(a:Bool)(k:Int→Int→Int→Option ρ):ae8 b c d e f a k=agi b c d e f a k:=by unfold ae8;rw[cu]

abbrev caw(ρ:Type):=(List (List Int))→Int→(List Int)→Option ρ
def aug{ρ:Type}(b:List (List Int))(a:Int)(c:List Int)(nx d:caw ρ):Option ρ:=br (decide (a<(↑b.length:Int))) (br (decide (0≤a)) (br (decide (a<(↑b.length:Int))) (br (decide ((c.length+(b.getD a.toNat []).length)*1≤140737488355328)) (nx b (Aa.wrap (a+1)) (c++b.getD a.toNat [])) none) none) none) (d b a c)
abbrev b40:=(List (List Int))×Int×(List Int)
abbrev b9q:=b40
def cf3{ρ:Type}(f:b40→Option ρ):caw ρ:=fun a b c=>f (a,b,c)
def b42{ρ:Type}:aed b40 b9q ρ:=fun (a,b,c) next ex=>aug a b c (cf3 next) (cf3 ex)
def cf6{ρ:Type}:=shut (lp (b42 (ρ:=ρ)))
theorem cgy{ρ:Type}:cf6 (ρ:=ρ)=lp b42:=cu _
def b73{ρ:Type}(f:ad4 b40 b9q ρ)(a:List (List Int))(b:Int)(c:List Int)(d:caw ρ):Option ρ:=f (a,b,c) (fun (a,b,c)=>d a b c)
def bam{ρ:Type}:=b73 (lp (b42 (ρ:=ρ)))
def bcd{ρ:Type}:=b73 (cf6 (ρ:=ρ))
theorem bdu{ρ:Type}:bcd (ρ:=ρ)=bam:=congrArg b73 cgy
def arq{ρ:Type}(a:List (List Int))(k:(List Int)→Option ρ):Option ρ:=bcd a 0 [] fun c d b=>k b
def ji{ρ:Type}:=shut (arq (ρ:=ρ))
theorem bbz{ρ:Type}(a:List (List Int))(k:(List Int)→Option ρ):ji a k=arq a k:=by unfold ji;rw[cu]

def aj0{ρ:Type}(a:Int)(k:Int→Option ρ):Option ρ:=k (Aa.wrap ((Aa.wrap (a+7)).tdiv 8))
def abq{ρ:Type}:=shut (aj0 (ρ:=ρ))
theorem asn{ρ:Type}(a:Int)(k:Int→Option ρ):abq a k=aj0 a k:=by unfold abq;rw[cu]

def aqk{ρ:Type}(a:Int)(k:Int→Option ρ):Option ρ:=br (a==4) (br (a==4) (k 136) (br (a==5) (k 72) (br (a==6) (k 168) (k 0)))) (br (a==7) (k 136) (br (a==5) (k 72) (br (a==6) (k 168) (k 0))))
def ach{ρ:Type}:=shut (aqk (ρ:=ρ))
theorem baw{ρ:Type}(a:Int)(k:Int→Option ρ):ach a k=aqk a k:=by unfold ach;rw[cu]

def aub{ρ:Type}(a:Int)(k:Int→(List Int)→Int→Bool→Int→Option ρ):Option ρ:=ach a fun b=>br (b==0) (k 0 [0,0,0,0,0,0,0,0,0,0,0,0,0,0,0,0,0,0,0,0,0,0,0,0,0] 0 false 9) (k a [0,0,0,0,0,0,0,0,0,0,0,0,0,0,0,0,0,0,0,0,0,0,0,0,0] 0 false 0)
def aqt{ρ:Type}:=shut (aub (ρ:=ρ))
theorem bd8{ρ:Type}(a:Int)(k:Int→(List Int)→Int→Bool→Int→Option ρ):aqt a k=aub a k:=by unfold aqt;rw[cu]

abbrev cd6(ρ:Type):=Int→Int→(List Int)→(List Int)→Option ρ
def afb{ρ:Type}(d a:Int)(c b:List Int)(nx e:cd6 ρ):Option ρ:=br (decide (a<(168:Int))) (br (bits BinOp.and Ab d (1:Int)==(1:Int)) (br (decide ((0:Int)≤Aa.wrap (a.tdiv (7:Int)))) (br (decide (Aa.wrap (a.tdiv (7:Int))<(↑24:Int))) (br (decide (a.tmod (7:Int)<(0:Int))) none (br (decide (Ab.wrap (Ab.wrap ((1:Int)*(2:Int)^min (a.tmod (7:Int)).toNat 64)-(1:Int))<(0:Int))) none (br (decide ((0:Int)≤Aa.wrap (a.tdiv (7:Int)))) (br (decide (Aa.wrap (a.tdiv (7:Int))<(↑24:Int))) (br (decide (Ab.wrap (d*(2:Int))≥(256:Int))) (nx (bits BinOp.xor Ab (bits BinOp.and Ab (Ab.wrap (d*(2:Int))) (255:Int)) (113:Int)) (Aa.wrap (a+(1:Int))) c (b.set (Aa.wrap (a.tdiv (7:Int))).toNat (bits BinOp.or Ab (b.getD (Aa.wrap (a.tdiv (7:Int))).toNat (0:Int)) (Ab.wrap ((1:Int)*(2:Int)^min (Ab.wrap (Ab.wrap ((1:Int)*(2:Int)^min (a.tmod (7:Int)).toNat 64)-(1:Int))).toNat 64))))) (nx (Ab.wrap (d*(2:Int))) (Aa.wrap (a+(1:Int))) c (b.set (Aa.wrap (a.tdiv (7:Int))).toNat (bits BinOp.or Ab (b.getD (Aa.wrap (a.tdiv (7:Int))).toNat (0:Int)) (Ab.wrap ((1:Int)*(2:Int)^min (Ab.wrap (Ab.wrap ((1:Int)*(2:Int)^min (a.tmod (7:Int)).toNat 64)-(1:Int))).toNat 64)))))) none) none))) none) none) (br (decide (Ab.wrap (d*(2:Int))≥(256:Int))) (nx (bits BinOp.xor Ab (bits BinOp.and Ab (Ab.wrap (d*(2:Int))) (255:Int)) (113:Int)) (Aa.wrap (a+(1:Int))) c b) (nx (Ab.wrap (d*(2:Int))) (Aa.wrap (a+(1:Int))) c b))) (e d a c b)
abbrev b3u:=Int×Int×(List Int)×(List Int)
abbrev cey:=b3u
def b07{ρ:Type}(f:b3u→Option ρ):cd6 ρ:=fun c d a b=>f (c,d,a,b)
def bzz{ρ:Type}:aed b3u cey ρ:=fun (c,d,a,b) next ex=>afb c d a b (b07 next) (b07 ex)
def b92{ρ:Type}:=shut (lp (bzz (ρ:=ρ)))
theorem cgj{ρ:Type}:b92 (ρ:=ρ)=lp bzz:=cu _
def bz0{ρ:Type}(f:ad4 b3u cey ρ)(c d:Int)(a b:List Int)(e:cd6 ρ):Option ρ:=f (c,d,a,b) (fun (c,d,a,b)=>e c d a b)
def afa{ρ:Type}:=bz0 (lp (bzz (ρ:=ρ)))
def ao1{ρ:Type}:=bz0 (b92 (ρ:=ρ))
theorem afo{ρ:Type}:ao1 (ρ:=ρ)=afa:=congrArg bz0 cgj
def ah1{ρ:Type}(k:(List Int)→Option ρ):Option ρ:=ao1 1 0 [0,0,0,0,0,0,0,0,0,0,0,0,0,0,0,0,0,0,0,0,0,0,0,0] [0,0,0,0,0,0,0,0,0,0,0,0,0,0,0,0,0,0,0,0,0,0,0,0] fun b c d a=>k a
def aap{ρ:Type}:=shut (ah1 (ρ:=ρ))
theorem apc{ρ:Type}  (k:(List Int)→Option ρ):aap  k=ah1  k:=by unfold aap;rw[cu]

def ace{ρ:Type}(b a:Int)(k:Int→Option ρ):Option ρ:=br (decide (a.tmod (64:Int)<(0:Int))) none (br (decide (Aa.wrap ((64:Int)-a.tmod (64:Int))<(0:Int))) none (k (bits BinOp.or Ab (Ab.wrap (b*(2:Int)^min (a.tmod (64:Int)).toNat 64)) (b.fdiv ((2:Int)^min (Aa.wrap ((64:Int)-a.tmod (64:Int))).toNat 64)))))
def afv{ρ:Type}:=shut (ace (ρ:=ρ))
theorem afh{ρ:Type}(a:Int)(b:Int)(k:Int→Option ρ):afv a b k=ace a b k:=by unfold afv;rw[cu]

abbrev cbi(ρ:Type):=Int→Int→Int→(List Int)→(List Int)→(List Int)→Option ρ
def aoi{ρ:Type}(b a d:Int)(c e f:List Int)(nx g:cbi ρ):Option ρ:=br (decide (d<24)) (br (decide (0≤Aa.wrap (b+Aa.wrap (5*a)))) (br (decide (Aa.wrap (b+Aa.wrap (5*a))<(↑25:Int))) (afv (c.getD (Aa.wrap (b+Aa.wrap (5*a))).toNat 0) (Aa.wrap ((Aa.wrap (Aa.wrap (d+1)*Aa.wrap (d+2))).tdiv 2)) fun h=>br (decide (0≤Aa.wrap (a+Aa.wrap (5*(Aa.wrap (Aa.wrap (2*b)+Aa.wrap (3*a))).tmod 5)))) (br (decide (Aa.wrap (a+Aa.wrap (5*(Aa.wrap (Aa.wrap (2*b)+Aa.wrap (3*a))).tmod 5))<(↑25:Int))) (nx a ((Aa.wrap (Aa.wrap (2*b)+Aa.wrap (3*a))).tmod 5) (Aa.wrap (d+1)) c e (f.set (Aa.wrap (a+Aa.wrap (5*(Aa.wrap (Aa.wrap (2*b)+Aa.wrap (3*a))).tmod 5))).toNat h)) none) none) none) none) (g b a d c e f)
abbrev b1d:=Int×Int×Int×(List Int)×(List Int)×(List Int)
abbrev ceo:=b1d
def b04{ρ:Type}(f:b1d→Option ρ):cbi ρ:=fun d e g a b c=>f (d,e,g,a,b,c)
def bz8{ρ:Type}:aed b1d ceo ρ:=fun (d,e,f,a,b,c) next ex=>aoi d e f a b c (b04 next) (b04 ex)
def cb2{ρ:Type}:=shut (lp (bz8 (ρ:=ρ)))
theorem cij{ρ:Type}:cb2 (ρ:=ρ)=lp bz8:=cu _
def bz9{ρ:Type}(f:ad4 b1d ceo ρ)(d e g:Int)(a b c:List Int)(h:cbi ρ):Option ρ:=f (d,e,g,a,b,c) (fun (d,e,g,a,b,c)=>h d e g a b c)
def aoc{ρ:Type}:=bz9 (lp (bz8 (ρ:=ρ)))
def bcu{ρ:Type}:=bz9 (cb2 (ρ:=ρ))
theorem amf{ρ:Type}:bcu (ρ:=ρ)=aoc:=congrArg bz9 cij
def aqe{ρ:Type}(a:List Int)(k:(List Int)→Option ρ):Option ρ:=bcu 1 0 0 a [0,0,0,0,0,0,0,0,0,0,0,0,0,0,0,0,0,0,0,0,0,0,0,0,0] ([(0:Int),(0:Int),(0:Int),(0:Int),(0:Int),(0:Int),(0:Int),(0:Int),(0:Int),(0:Int),(0:Int),(0:Int),(0:Int),(0:Int),(0:Int),(0:Int),(0:Int),(0:Int),(0:Int),(0:Int),(0:Int),(0:Int),(0:Int),(0:Int),(0:Int)].set 0 (a.getD 0 0)) fun c d e f g b=>k b
def ajs{ρ:Type}:=shut (aqe (ρ:=ρ))
theorem bdn{ρ:Type}(a:List Int)(k:(List Int)→Option ρ):ajs a k=aqe a k:=by unfold ajs;rw[cu]

abbrev b2b(ρ:Type):=Int→(List Int)→(List Int)→(List Int)→Option ρ
def ajt{ρ:Type}(a:Int)(b d c:List Int)(nx e:b2b ρ):Option ρ:=br (decide (a<25)) (br (decide (0≤a.tmod 5)) (br (decide (a.tmod 5<(↑5:Int))) (br (decide (0≤a)) (br (decide (a<(↑25:Int))) (br (decide (0≤a.tmod 5)) (br (decide (a.tmod 5<(↑5:Int))) (nx (Aa.wrap (a+1)) b d (c.set (a.tmod 5).toNat (bits BinOp.xor Ab (c.getD (a.tmod 5).toNat 0) (b.getD a.toNat 0)))) none) none) none) none) none) none) (e a b d c)
abbrev b3q:=Int×(List Int)×(List Int)×(List Int)
abbrev cbf:=b3q
def b0c{ρ:Type}(f:b3q→Option ρ):b2b ρ:=fun d a b c=>f (d,a,b,c)
def bz4{ρ:Type}:aed b3q cbf ρ:=fun (d,a,b,c) next ex=>ajt d a b c (b0c next) (b0c ex)
def cda{ρ:Type}:=shut (lp (bz4 (ρ:=ρ)))
theorem cia{ρ:Type}:cda (ρ:=ρ)=lp bz4:=cu _
def bz1{ρ:Type}(f:ad4 b3q cbf ρ)(d:Int)(a b c:List Int)(e:b2b ρ):Option ρ:=f (d,a,b,c) (fun (d,a,b,c)=>e d a b c)
def ajq{ρ:Type}:=bz1 (lp (bz4 (ρ:=ρ)))
def awe{ρ:Type}:=bz1 (cda (ρ:=ρ))
theorem ai3{ρ:Type}:awe (ρ:=ρ)=ajq:=congrArg bz1 cia
abbrev zc46(ρ:Type):=Int→(List Int)→(List Int)→(List Int)→Option ρ
def aju{ρ:Type}(a:Int)(b d c:List Int)(nx e:b2b ρ):Option ρ:=br (decide (a<25)) (br (decide (0≤a)) (br (decide (a<(↑25:Int))) (br (decide (0≤(Aa.wrap (a+4)).tmod 5)) (br (decide ((Aa.wrap (a+4)).tmod 5<(↑5:Int))) (br (decide (0≤(Aa.wrap (a+1)).tmod 5)) (br (decide ((Aa.wrap (a+1)).tmod 5<(↑5:Int))) (afv (b.getD ((Aa.wrap (a+1)).tmod 5).toNat 0) 1 fun f=>br (decide (0≤a)) (br (decide (a<(↑25:Int))) (nx (Aa.wrap (a+1)) b d (c.set a.toNat (bits BinOp.xor Ab (bits BinOp.xor Ab (c.getD a.toNat 0) (b.getD ((Aa.wrap (a+4)).tmod 5).toNat 0)) f))) none) none) none) none) none) none) none) none) (e a b d c)
abbrev b1a:=Int×(List Int)×(List Int)×(List Int)
abbrev b9o:=b1a
def b0i{ρ:Type}(f:b1a→Option ρ):zc46 ρ:=fun d a b c=>f (d,a,b,c)
def bz2{ρ:Type}:aed b1a b9o ρ:=fun (d,a,b,c) next ex=>aju d a b c (b0i next) (b0i ex)
def cdh{ρ:Type}:=shut (lp (bz2 (ρ:=ρ)))
theorem cip{ρ:Type}:cdh (ρ:=ρ)=lp bz2:=cu _
def bz7{ρ:Type}(f:ad4 b1a b9o ρ)(d:Int)(a b c:List Int)(e:b2b ρ):Option ρ:=f (d,a,b,c) (fun (d,a,b,c)=>e d a b c)
def ajp{ρ:Type}:=bz7 (lp (bz2 (ρ:=ρ)))
def awq{ρ:Type}:=bz7 (cdh (ρ:=ρ))
theorem ai5{ρ:Type}:awq (ρ:=ρ)=ajp:=congrArg bz7 cip
def amg{ρ:Type}(a:List Int)(k:(List Int)→Option ρ):Option ρ:=awe 0 a [0,0,0,0,0,0,0,0,0,0,0,0,0,0,0,0,0,0,0,0,0,0,0,0,0] [0,0,0,0,0] fun f b c d=>awq 0 d c b fun g h i e=>k e
def aer{ρ:Type}:=shut (amg (ρ:=ρ))
theorem av7{ρ:Type}(a:List Int)(k:(List Int)→Option ρ):aer a k=amg a k:=by unfold aer;rw[cu]

abbrev b8p(ρ:Type):=Int→Int→(List Int)→(List Int)→(List Int)→(List Int)→Option ρ
def asl{ρ:Type}(f a:Int)(c d e b:List Int)(nx g:b8p ρ):Option ρ:=br (decide (a<25)) (br (decide (0≤a)) (br (decide (a<(↑25:Int))) (br (decide (0≤Aa.wrap (Aa.wrap (Aa.wrap (a.tdiv 5)*5)+(Aa.wrap (a+1)).tmod 5))) (br (decide (Aa.wrap (Aa.wrap (Aa.wrap (a.tdiv 5)*5)+(Aa.wrap (a+1)).tmod 5)<(↑25:Int))) (br (decide (0≤Aa.wrap (Aa.wrap (Aa.wrap (a.tdiv 5)*5)+(Aa.wrap (a+2)).tmod 5))) (br (decide (Aa.wrap (Aa.wrap (Aa.wrap (a.tdiv 5)*5)+(Aa.wrap (a+2)).tmod 5)<(↑25:Int))) (br (decide (0≤a)) (br (decide (a<(↑25:Int))) (nx f (Aa.wrap (a+1)) c d (e.set a.toNat (bits BinOp.xor Ab (b.getD a.toNat 0) (bits BinOp.and Ab (bits BinOp.xor Ab (b.getD (Aa.wrap (Aa.wrap (Aa.wrap (a.tdiv 5)*5)+(Aa.wrap (a+1)).tmod 5)).toNat 0) 18446744073709551615) (b.getD (Aa.wrap (Aa.wrap (Aa.wrap (a.tdiv 5)*5)+(Aa.wrap (a+2)).tmod 5)).toNat 0)))) b) none) none) none) none) none) none) none) none) (g f a c d e b)
abbrev b5j:=Int×Int×(List Int)×(List Int)×(List Int)×(List Int)
abbrev b8l:=b5j
def cdn{ρ:Type}(f:b5j→Option ρ):b8p ρ:=fun e g a b c d=>f (e,g,a,b,c,d)
def b2x{ρ:Type}:aed b5j b8l ρ:=fun (e,f,a,b,c,d) next ex=>asl e f a b c d (cdn next) (cdn ex)
def b8r{ρ:Type}:=shut (lp (b2x (ρ:=ρ)))
theorem ch7{ρ:Type}:b8r (ρ:=ρ)=lp b2x:=cu _
def b6s{ρ:Type}(f:ad4 b5j b8l ρ)(e g:Int)(a b c d:List Int)(h:b8p ρ):Option ρ:=f (e,g,a,b,c,d) (fun (e,g,a,b,c,d)=>h e g a b c d)
def atb{ρ:Type}:=b6s (lp (b2x (ρ:=ρ)))
def ama{ρ:Type}:=b6s (b8r (ρ:=ρ))
theorem ax4{ρ:Type}:ama (ρ:=ρ)=atb:=congrArg b6s ch7
abbrev cfh(ρ:Type):=Int→(List Int)→(List Int)→(List Int)→Option ρ
def al7{ρ:Type}(e:Int)(a b c:List Int)(nx h:cfh ρ):Option ρ:=br (decide (e<24)) (aer a fun i=>ajs i fun j=>ama e 0 c b a j fun d l f k g m=>br (decide (0≤d)) (br (decide (d<(↑24:Int))) (nx (Aa.wrap (d+1)) (g.set 0 (bits BinOp.xor Ab (g.getD 0 0) (f.getD d.toNat 0))) k f) none) none) (h e a b c)
abbrev b58:=Int×(List Int)×(List Int)×(List Int)
abbrev b9u:=b58
def b80{ρ:Type}(f:b58→Option ρ):cfh ρ:=fun d a b c=>f (d,a,b,c)
def b0a{ρ:Type}:aed b58 b9u ρ:=fun (d,a,b,c) next ex=>al7 d a b c (b80 next) (b80 ex)
def b9s{ρ:Type}:=shut (lp (b0a (ρ:=ρ)))
theorem cg1{ρ:Type}:b9s (ρ:=ρ)=lp b0a:=cu _
def b60{ρ:Type}(f:ad4 b58 b9u ρ)(d:Int)(a b c:List Int)(e:cfh ρ):Option ρ:=f (d,a,b,c) (fun (d,a,b,c)=>e d a b c)
def ate{ρ:Type}:=b60 (lp (b0a (ρ:=ρ)))
def atd{ρ:Type}:=b60 (b9s (ρ:=ρ))
theorem ax1{ρ:Type}:atd (ρ:=ρ)=ate:=congrArg b60 cg1
def ak5{ρ:Type}(a:List Int)(k:(List Int)→Option ρ):Option ρ:=aap fun b=>atd 0 a [0,0,0,0,0,0,0,0,0,0,0,0,0,0,0,0,0,0,0,0,0,0,0,0,0] b fun d c e f=>k c
def qw{ρ:Type}:=shut (ak5 (ρ:=ρ))
theorem atf{ρ:Type}(a:List Int)(k:(List Int)→Option ρ):qw a k=ak5 a k:=by unfold qw;rw[cu]

def att{ρ:Type}(b:List Int)(a c:Int)(k:(List Int)→Option ρ):Option ρ:=br (decide (0≤Aa.wrap (a.tdiv 8))) (br (decide (Aa.wrap (a.tdiv 8)<(↑25:Int))) (br (decide (Aa.wrap (8*a.tmod 8)<0)) none (br (decide (0≤Aa.wrap (a.tdiv 8))) (br (decide (Aa.wrap (a.tdiv 8)<(↑25:Int))) (k (b.set (Aa.wrap (a.tdiv 8)).toNat (bits BinOp.xor Ab (b.getD (Aa.wrap (a.tdiv 8)).toNat 0) (Ab.wrap (Ab.wrap c*2^min (Aa.wrap (8*a.tmod 8)).toNat 64))))) none) none)) none) none
def aa0{ρ:Type}:=shut (att (ρ:=ρ))
theorem be9{ρ:Type}(a:List Int)(b:Int)(c:Int)(k:(List Int)→Option ρ):aa0 a b c k=att a b c k:=by unfold aa0;rw[cu]

abbrev b8k(ρ:Type):=Int→Int→(List Int)→Int→(List Int)→Int→Bool→Int→(List Int)→Int→Bool→Option ρ
def aj4{ρ:Type}(j k:Int)(b:List Int)(d:Int)(c:List Int)(a:Int)(e:Bool)(f:Int)(g:List Int)(h:Int)(i:Bool)(nx m:b8k ρ):Option ρ:=br (decide ((↑b.length:Int)<j)) (br (a==k) (qw c fun l=>br (decide ((b.length+1)*1≤140737488355328)) (nx j k (b++[Af.wrap ((l.getD 0 0).fdiv (2^0))]) d l (Aa.wrap (0+1)) e f g h i) none) (br (decide (0≤Aa.wrap (a.tdiv 8))) (br (decide (Aa.wrap (a.tdiv 8)<(↑25:Int))) (br (decide (Aa.wrap (8*a.tmod 8)<0)) none (br (decide ((b.length+1)*1≤140737488355328)) (nx j k (b++[Af.wrap ((c.getD (Aa.wrap (a.tdiv 8)).toNat 0).fdiv (2^min (Aa.wrap (8*a.tmod 8)).toNat 64))]) d c (Aa.wrap (a+1)) e f g h i) none)) none) none)) (m j k b d c a e f g h i)
abbrev b3z:=Int×Int×(List Int)×Int×(List Int)×Int×Bool×Int×(List Int)×Int×Bool
abbrev b8f:=b3z
def cdb{ρ:Type}(f:b3z→Option ρ):b8k ρ:=fun k l j a b c d e g h i=>f (k,l,j,a,b,c,d,e,g,h,i)
def b3a{ρ:Type}:aed b3z b8f ρ:=fun (j,k,i,a,b,c,d,e,f,g,h) next ex=>aj4 j k i a b c d e f g h (cdb next) (cdb ex)
def cbx{ρ:Type}:=shut (lp (b3a (ρ:=ρ)))
theorem chj{ρ:Type}:cbx (ρ:=ρ)=lp b3a:=cu _
def b7d{ρ:Type}(f:ad4 b3z b8f ρ)(k l:Int)(j:List Int)(a:Int)(b:List Int)(c:Int)(d:Bool)(e:Int)(g:List Int)(h:Int)(i:Bool)(m:b8k ρ):Option ρ:=f (k,l,j,a,b,c,d,e,g,h,i) (fun (k,l,j,a,b,c,d,e,g,h,i)=>m k l j a b c d e g h i)
def aqh{ρ:Type}:=b7d (lp (b3a (ρ:=ρ)))
def aa7{ρ:Type}:=b7d (cbx (ρ:=ρ))
theorem avj{ρ:Type}:aa7 (ρ:=ρ)=aqh:=congrArg b7d chj
def aks{ρ:Type}(a:Int)(b:List Int)(c:Int)(d:Bool)(f:Int)(k:Int→(List Int)→Int→Bool→(List Int)→Option ρ):Option ρ:=br (decide (f<0)) (k a b c d []) (ach a fun e=>br (!d) (br (a==4) (aa0 b c 6 fun G=>aa0 G (Aa.wrap (e-1)) 128 fun H=>qw H fun I=>aa7 f e [] a I 0 true 0 [0,0,0,0,0,0,0,0,0,0,0,0,0,0,0,0,0,0,0,0,0,0,0,0,0] 0 false fun q4 q5 J M N O g Q U W Z=>k M N O g J) (br (a==5) (aa0 b c 6 fun h=>aa0 h (Aa.wrap (e-1)) 128 fun i=>qw i fun j=>aa7 f e [] a j 0 true 0 [0,0,0,0,0,0,0,0,0,0,0,0,0,0,0,0,0,0,0,0,0,0,0,0,0] 0 false fun aa ab l m n o p ac ad ae af=>k m n o p l) (aa0 b c 31 fun q=>aa0 q (Aa.wrap (e-1)) 128 fun r=>qw r fun s=>aa7 f e [] a s 0 true 0 [0,0,0,0,0,0,0,0,0,0,0,0,0,0,0,0,0,0,0,0,0,0,0,0,0] 0 false fun ag ah t u v w y ai aj ak al=>k u v w y t))) (aa7 f e [] a b c d 0 [0,0,0,0,0,0,0,0,0,0,0,0,0,0,0,0,0,0,0,0,0,0,0,0,0] 0 false fun am an z A B C F ao ap aq ar=>k A B C F z))
def aa1{ρ:Type}:=shut (aks (ρ:=ρ))
theorem as5{ρ:Type}(b:Int)(a:List Int)(d:Int)(c:Bool)(e:Int)(k:Int→(List Int)→Int→Bool→(List Int)→Option ρ):aa1 b a d c e k=aks b a d c e k:=by unfold aa1;rw[cu]

abbrev cdm(ρ:Type):=(List Int)→Int→Int→(List Int)→Int→Bool→Int→(List Int)→Int→Bool→Option ρ
def ant{ρ:Type}(i:List Int)(c a:Int)(j:List Int)(b:Int)(d:Bool)(e:Int)(f:List Int)(g:Int)(h:Bool)(nx l:cdm ρ):Option ρ:=br (decide (c<(↑i.length:Int))) (br (decide (0≤c)) (br (decide (c<(↑i.length:Int))) (aa0 j b (i.getD c.toNat 0) fun k=>ach a fun m=>br (Aa.wrap (b+1)==m) (qw k fun n=>nx i (Aa.wrap (c+1)) a n 0 d e f g h) (nx i (Aa.wrap (c+1)) a k (Aa.wrap (b+1)) d e f g h)) none) none) (l i c a j b d e f g h)
abbrev b1x:=(List Int)×Int×Int×(List Int)×Int×Bool×Int×(List Int)×Int×Bool
abbrev cae:=b1x
def caj{ρ:Type}(f:b1x→Option ρ):cdm ρ:=fun j k a b c d e g h i=>f (j,k,a,b,c,d,e,g,h,i)
def b1s{ρ:Type}:aed b1x cae ρ:=fun (i,j,a,b,c,d,e,f,g,h) next ex=>ant i j a b c d e f g h (caj next) (caj ex)
def cb6{ρ:Type}:=shut (lp (b1s (ρ:=ρ)))
theorem cii{ρ:Type}:cb6 (ρ:=ρ)=lp b1s:=cu _
def b6i{ρ:Type}(f:ad4 b1x cae ρ)(j:List Int)(k a:Int)(b:List Int)(c:Int)(d:Bool)(e:Int)(g:List Int)(h:Int)(i:Bool)(l:cdm ρ):Option ρ:=f (j,k,a,b,c,d,e,g,h,i) (fun (j,k,a,b,c,d,e,g,h,i)=>l j k a b c d e g h i)
def aw2{ρ:Type}:=b6i (lp (b1s (ρ:=ρ)))
def avu{ρ:Type}:=b6i (cb6 (ρ:=ρ))
theorem azw{ρ:Type}:avu (ρ:=ρ)=aw2:=congrArg b6i cii
def aly{ρ:Type}(c:Int)(a:List Int)(d:Int)(b:Bool)(e:List Int)(k:Int→(List Int)→Int→Bool→Option ρ):Option ρ:=br b (k c a d b) (avu e 0 c a d b 0 [0,0,0,0,0,0,0,0,0,0,0,0,0,0,0,0,0,0,0,0,0,0,0,0,0] 0 false fun j l f g h i m n o p=>k f g h i)
def abz{ρ:Type}:=shut (aly (ρ:=ρ))
theorem aw3{ρ:Type}(b:Int)(a:List Int)(d:Int)(c:Bool)(e:List Int)(k:Int→(List Int)→Int→Bool→Option ρ):abz b a d c e k=aly b a d c e k:=by unfold abz;rw[cu]

def ato{ρ:Type}(d:Int)(e:List Int)(a:Int)(k:(List Int)→Int→Option ρ):Option ρ:=aqt d fun f g h i b=>br (b !=0) (k [] b) (br (decide (a<0)) (k [] 8) (br (decide (a>16777216)) (k [] 8) (abz f g h i e fun j l m n=>aa1 j l m n a fun r o p q c=>k c 0)))
def acg{ρ:Type}:=shut (ato (ρ:=ρ))
theorem bgc{ρ:Type}(a:Int)(b:List Int)(c:Int)(k:(List Int)→Int→Option ρ):acg a b c k=ato a b c k:=by unfold acg;rw[cu]

def atl{ρ:Type}(a:Int)(k:Int→(List Int)→(List Int)→Int→Int→Option ρ):Option ρ:=br (a==1) (k a [1779033703,3144134277,1013904242,2773480762,1359893119,2600822924,528734635,1541459225] [] 0 0) (br (a==2) (k a [14680500436340154072,7105036623409894663,10473403895298186519,1526699215303891257,7436329637833083697,10282925794625328401,15784041429090275239,5167115440072839076] [] 0 0) (br (a==3) (k a [7640891576956012808,13503953896175478587,4354685564936845355,11912009170470909681,5840696475078001361,11170449401992604703,2270897969802886507,6620516959819538809] [] 0 0) (k 0 [0,0,0,0,0,0,0,0] [] 0 9)))
def ak3{ρ:Type}:=shut (atl (ρ:=ρ))
theorem bek{ρ:Type}(a:Int)(k:Int→(List Int)→(List Int)→Int→Int→Option ρ):ak3 a k=atl a k:=by unfold ak3;rw[cu]

abbrev cbr(ρ:Type):=Int→Int→(List Int)→Option ρ
def ba6{ρ:Type}(b a:Int)(c:List Int)(nx d:cbr ρ):Option ρ:=br (decide (a≥0)) (br (decide (0≤a)) (br (decide (a<(↑c.length:Int))) (nx (b.fdiv (2^8)) (Aa.wrap (a-1)) (c.set a.toNat (Af.wrap (bits BinOp.and Ab b 255)))) none) none) (d b a c)
abbrev b3l:=Int×Int×(List Int)
abbrev b8b:=b3l
def caz{ρ:Type}(f:b3l→Option ρ):cbr ρ:=fun a b c=>f (a,b,c)
def b0r{ρ:Type}:aed b3l b8b ρ:=fun (a,b,c) next ex=>ba6 a b c (caz next) (caz ex)
def cfs{ρ:Type}:=shut (lp (b0r (ρ:=ρ)))
theorem cic{ρ:Type}:cfs (ρ:=ρ)=lp b0r:=cu _
def b6t{ρ:Type}(f:ad4 b3l b8b ρ)(a b:Int)(c:List Int)(d:cbr ρ):Option ρ:=f (a,b,c) (fun (a,b,c)=>d a b c)
def bkk{ρ:Type}:=b6t (lp (b0r (ρ:=ρ)))
def bjz{ρ:Type}:=b6t (cfs (ρ:=ρ))
theorem bi3{ρ:Type}:bjz (ρ:=ρ)=bkk:=congrArg b6t cic
def ax2{ρ:Type}(b a:Int)(k:(List Int)→Option ρ):Option ρ:=br (decide (a<0)) (k []) (br (decide (a>65536)) (k []) (br (decide (0≤a)) (br (decide (a≤a)) (br (decide (a*(↑1:Int)≤(↑140737488355328:Int))) (bjz b (Aa.wrap (a-1)) (Ag a.toNat (0:Int)) fun d e c=>k c) none) none) none))
def wz{ρ:Type}:=shut (ax2 (ρ:=ρ))
theorem bkm{ρ:Type}(a:Int)(b:Int)(k:(List Int)→Option ρ):wz a b k=ax2 a b k:=by unfold wz;rw[cu]

def aov{ρ:Type}(a:Int)(k:Int→Option ρ):Option ρ:=br (a==1) (k 64) (k 128)
def aa2{ρ:Type}:=shut (aov (ρ:=ρ))
theorem azh{ρ:Type}(a:Int)(k:Int→Option ρ):aa2 a k=aov a k:=by unfold aa2;rw[cu]

def apn{ρ:Type}(k:(List Int)→Option ρ):Option ρ:=k [1116352408,1899447441,3049323471,3921009573,961987163,1508970993,2453635748,2870763221,3624381080,310598401,607225278,1426881987,1925078388,2162078206,2614888103,3248222580,3835390401,4022224774,264347078,604807628,770255983,1249150122,1555081692,1996064986,2554220882,2821834349,2952996808,3210313671,3336571891,3584528711,113926993,338241895,666307205,773529912,1294757372,1396182291,1695183700,1986661051,2177026350,2456956037,2730485921,2820302411,3259730800,3345764771,3516065817,3600352804,4094571909,275423344,430227734,506948616,659060556,883997877,958139571,1322822218,1537002063,1747873779,1955562222,2024104815,2227730452,2361852424,2428436474,2756734187,3204031479,3329325298]
def aaq{ρ:Type}:=shut (apn (ρ:=ρ))
theorem akf{ρ:Type}  (k:(List Int)→Option ρ):aaq  k=apn  k:=by unfold aaq;rw[cu]

def aph{ρ:Type}(k:(List Int)→Option ρ):Option ρ:=k [4794697086780616226,8158064640168781261,13096744586834688815,16840607885511220156,4131703408338449720,6480981068601479193,10538285296894168987,12329834152419229976,15566598209576043074,1334009975649890238,2608012711638119052,6128411473006802146,8268148722764581231,9286055187155687089,11230858885718282805,13951009754708518548,16472876342353939154,17275323862435702243,1135362057144423861,2597628984639134821,3308224258029322869,5365058923640841347,6679025012923562964,8573033837759648693,10970295158949994411,12119686244451234320,12683024718118986047,13788192230050041572,14330467153632333762,15395433587784984357,489312712824947311,1452737877330783856,2861767655752347644,3322285676063803686,5560940570517711597,5996557281743188959,7280758554555802590,8532644243296465576,9350256976987008742,10552545826968843579,11727347734174303076,12113106623233404929,14000437183269869457,14369950271660146224,15101387698204529176,15463397548674623760,17586052441742319658,1182934255886127544,1847814050463011016,2177327727835720531,2830643537854262169,3796741975233480872,4115178125766777443,5681478168544905931,6601373596472566643,7507060721942968483,8399075790359081724,8693463985226723168,9568029438360202098,10144078919501101548,10430055236837252648,11840083180663258601,13761210420658862357,14299343276471374635,14566680578165727644,15097957966210449927,16922976911328602910,17689382322260857208,500013540394364858,748580250866718886,1242879168328830382,1977374033974150939,2944078676154940804,3659926193048069267,4368137639120453308,4836135668995329356,5532061633213252278,6448918945643986474,6902733635092675308,7801388544844847127]
def aar{ρ:Type}:=shut (aph (ρ:=ρ))
theorem aky{ρ:Type}  (k:(List Int)→Option ρ):aar  k=aph  k:=by unfold aar;rw[cu]

abbrev cf5(ρ:Type):=(List Int)→Int→Int→Option ρ
def axc{ρ:Type}(b:List Int)(c a:Int)(nx d:cf5 ρ):Option ρ:=br (decide (a<(↑b.length:Int))) (br (decide (0≤a)) (br (decide (a<(↑b.length:Int))) (nx b (Ab.wrap (Ab.wrap (c*256)+Ab.wrap (b.getD a.toNat 0))) (Aa.wrap (a+1))) none) none) (d b c a)
abbrev b05:=(List Int)×Int×Int
abbrev b9x:=b05
def b76{ρ:Type}(f:b05→Option ρ):cf5 ρ:=fun a b c=>f (a,b,c)
def b5l{ρ:Type}:aed b05 b9x ρ:=fun (a,b,c) next ex=>axc a b c (b76 next) (b76 ex)
def b8a{ρ:Type}:=shut (lp (b5l (ρ:=ρ)))
theorem cgk{ρ:Type}:b8a (ρ:=ρ)=lp b5l:=cu _
def b6r{ρ:Type}(f:ad4 b05 b9x ρ)(a:List Int)(b c:Int)(d:cf5 ρ):Option ρ:=f (a,b,c) (fun (a,b,c)=>d a b c)
def bfm{ρ:Type}:=b6r (lp (b5l (ρ:=ρ)))
def bed{ρ:Type}:=b6r (b8a (ρ:=ρ))
theorem bhm{ρ:Type}:bed (ρ:=ρ)=bfm:=congrArg b6r cgk
def aul{ρ:Type}(a:List Int)(k:Int→Option ρ):Option ρ:=bed a 0 0 fun c b d=>k b
def uj{ρ:Type}:=shut (aul (ρ:=ρ))
theorem bft{ρ:Type}(a:List Int)(k:Int→Option ρ):uj a k=aul a k:=by unfold uj;rw[cu]

def agw{ρ:Type}(b a:Int)(c:Bool)(k:Int→Option ρ):Option ρ:=br c (br (decide (a<0)) none (br (decide (Aa.wrap (64-a)<0)) none (k (bits BinOp.or Ab (b.fdiv (2^min a.toNat 64)) (Ab.wrap (b*2^min (Aa.wrap (64-a)).toNat 64)))))) (br (decide (a<0)) none (br (decide (Aa.wrap (32-a)<0)) none (k (bits BinOp.or Ab (b.fdiv (2^min a.toNat 64)) (bits BinOp.and Ab (Ab.wrap (b*2^min (Aa.wrap (32-a)).toNat 64)) 4294967295)))))
def aa6{ρ:Type}:=shut (agw (ρ:=ρ))
theorem alk{ρ:Type}(a:Int)(b:Int)(c:Bool)(k:Int→Option ρ):aa6 a b c k=agw a b c k:=by unfold aa6;rw[cu]

def aea{ρ:Type}(a d e c:Int)(f b:Bool)(k:Int→Option ρ):Option ρ:=br (decide (c<0)) none (br (!f) (aa6 a c b fun g=>aa6 a d b fun h=>aa6 a e b fun i=>k (bits BinOp.xor Ab (bits BinOp.xor Ab h i) g)) (aa6 a d b fun j=>aa6 a e b fun l=>k (bits BinOp.xor Ab (bits BinOp.xor Ab j l) (a.fdiv (2^min c.toNat 64)))))
def aav{ρ:Type}:=shut (aea (ρ:=ρ))
theorem ahe{ρ:Type}(a:Int)(b:Int)(c:Int)(d:Int)(e:Bool)(f:Bool)(k:Int→Option ρ):aav a b c d e f k=aea a b c d e f k:=by unfold aav;rw[cu]

abbrev cf8(ρ:Type):=(List Int)→Bool→Int→Int→Int→Int→(List Int)→Option ρ
def aic{ρ:Type}(d:List Int)(f:Bool)(g e c a:Int)(b:List Int)(nx h:cf8 ρ):Option ρ:=br (decide (a<g)) (br (decide (a<16)) (br (decide (0≤Aa.wrap (a*c))) (br (decide (Aa.wrap (a*c)≤Aa.wrap (Aa.wrap (a*c)+c))) (br (decide (Aa.wrap (Aa.wrap (a*c)+c)≤(↑d.length:Int))) (uj (Ad (Aa.wrap (a*c)).toNat (Ac (Aa.wrap (Aa.wrap (a*c)+c)).toNat d)) fun i=>br (decide ((b.length+1)*8≤140737488355328)) (nx d f g e c (Aa.wrap (a+1)) (b++[i])) none) none) none) none) (br (decide (0≤Aa.wrap (a-15))) (br (decide (Aa.wrap (a-15)<(↑b.length:Int))) (aav (b.getD (Aa.wrap (a-15)).toNat 0) 7 18 3 true false fun j=>br (decide (0≤Aa.wrap (a-2))) (br (decide (Aa.wrap (a-2)<(↑b.length:Int))) (aav (b.getD (Aa.wrap (a-2)).toNat 0) 17 19 10 true false fun k=>br f (br (decide (0≤Aa.wrap (a-15))) (br (decide (Aa.wrap (a-15)<(↑b.length:Int))) (aav (b.getD (Aa.wrap (a-15)).toNat 0) 1 8 7 true true fun l=>br (decide (0≤Aa.wrap (a-2))) (br (decide (Aa.wrap (a-2)<(↑b.length:Int))) (aav (b.getD (Aa.wrap (a-2)).toNat 0) 19 61 6 true true fun m=>br (decide (0≤Aa.wrap (a-7))) (br (decide (Aa.wrap (a-7)<(↑b.length:Int))) (br (decide (0≤Aa.wrap (a-16))) (br (decide (Aa.wrap (a-16)<(↑b.length:Int))) (br (decide ((b.length+1)*8≤140737488355328)) (nx d f g e c (Aa.wrap (a+1)) (b++[bits BinOp.and Ab (Ab.wrap (Ab.wrap (Ab.wrap (m+b.getD (Aa.wrap (a-7)).toNat 0)+l)+b.getD (Aa.wrap (a-16)).toNat 0)) e])) none) none) none) none) none) none) none) none) none) (br (decide (0≤Aa.wrap (a-7))) (br (decide (Aa.wrap (a-7)<(↑b.length:Int))) (br (decide (0≤Aa.wrap (a-16))) (br (decide (Aa.wrap (a-16)<(↑b.length:Int))) (br (decide ((b.length+1)*8≤140737488355328)) (nx d f g e c (Aa.wrap (a+1)) (b++[bits BinOp.and Ab (Ab.wrap (Ab.wrap (Ab.wrap (k+b.getD (Aa.wrap (a-7)).toNat 0)+j)+b.getD (Aa.wrap (a-16)).toNat 0)) e])) none) none) none) none) none)) none) none) none) none)) (h d f g e c a b)
abbrev b4h:=(List Int)×Bool×Int×Int×Int×Int×(List Int)
abbrev b79:=b4h
def b7s{ρ:Type}(f:b4h→Option ρ):cf8 ρ:=fun b c d e g a h=>f (b,c,d,e,g,a,h)
def bzt{ρ:Type}:aed b4h b79 ρ:=fun (b,c,d,e,f,a,g) next ex=>aic b c d e f a g (b7s next) (b7s ex)
def b8y{ρ:Type}:=shut (lp (bzt (ρ:=ρ)))
theorem cgl{ρ:Type}:b8y (ρ:=ρ)=lp bzt:=cu _
def b37{ρ:Type}(f:ad4 b4h b79 ρ)(b:List Int)(c:Bool)(d e g a:Int)(h:List Int)(i:cf8 ρ):Option ρ:=f (b,c,d,e,g,a,h) (fun (b,c,d,e,g,a,h)=>i b c d e g a h)
def aq4{ρ:Type}:=b37 (lp (bzt (ρ:=ρ)))
def arb{ρ:Type}:=b37 (b8y (ρ:=ρ))
theorem ap3{ρ:Type}:arb (ρ:=ρ)=aq4:=congrArg b37 cgl
def ajn{ρ:Type}(b:List Int)(a:Bool)(c d:Int)(k:(List Int)→Option ρ):Option ρ:=br a (arb b a c d 8 0 [] fun j l m n o p f=>k f) (arb b a c d 4 0 [] fun q r s g h i e=>k e)
def adt{ρ:Type}:=shut (ajn (ρ:=ρ))
theorem aqu{ρ:Type}(a:List Int)(b:Bool)(c:Int)(d:Int)(k:(List Int)→Option ρ):adt a b c d k=ajn a b c d k:=by unfold adt;rw[cu]

abbrev cf9(ρ:Type):=Bool→Int→Int→Int→(List Int)→(List Int)→(List Int)→(List Int)→(List Int)→(List Int)→Option ρ
def afu{ρ:Type}(i:Bool)(j c b:Int)(g h d e f a:List Int)(nx m:cf9 ρ):Option ρ:=br (decide (b<j)) (aav (a.getD 0 0) 2 13 22 false false fun n=>aav (a.getD 4 0) 6 11 25 false false fun k=>br i (aav (a.getD 0 0) 28 34 39 false true fun o=>aav (a.getD 4 0) 14 18 41 false true fun l=>br (decide (0≤b)) (br (decide (b<(↑80:Int))) (br (decide (0≤b)) (br (decide (b<(↑f.length:Int))) (nx i j c (Aa.wrap (b+1)) g h d e f [bits BinOp.and Ab (Ab.wrap (Ab.wrap (Ab.wrap (Ab.wrap (Ab.wrap (a.getD 7 0+l)+bits BinOp.xor Ab (bits BinOp.and Ab (a.getD 4 0) (a.getD 5 0)) (bits BinOp.and Ab (bits BinOp.xor Ab c (a.getD 4 0)) (a.getD 6 0)))+e.getD b.toNat 0)+f.getD b.toNat 0)+Ab.wrap (o+bits BinOp.xor Ab (bits BinOp.xor Ab (bits BinOp.and Ab (a.getD 0 0) (a.getD 1 0)) (bits BinOp.and Ab (a.getD 0 0) (a.getD 2 0))) (bits BinOp.and Ab (a.getD 1 0) (a.getD 2 0))))) c,a.getD 0 0,a.getD 1 0,a.getD 2 0,bits BinOp.and Ab (Ab.wrap (a.getD 3 0+Ab.wrap (Ab.wrap (Ab.wrap (Ab.wrap (a.getD 7 0+l)+bits BinOp.xor Ab (bits BinOp.and Ab (a.getD 4 0) (a.getD 5 0)) (bits BinOp.and Ab (bits BinOp.xor Ab c (a.getD 4 0)) (a.getD 6 0)))+e.getD b.toNat 0)+f.getD b.toNat 0))) c,a.getD 4 0,a.getD 5 0,a.getD 6 0]) none) none) none) none) (br (decide (0≤b)) (br (decide (b<(↑64:Int))) (br (decide (0≤b)) (br (decide (b<(↑f.length:Int))) (nx i j c (Aa.wrap (b+1)) g h d e f [bits BinOp.and Ab (Ab.wrap (Ab.wrap (Ab.wrap (Ab.wrap (Ab.wrap (a.getD 7 0+k)+bits BinOp.xor Ab (bits BinOp.and Ab (a.getD 4 0) (a.getD 5 0)) (bits BinOp.and Ab (bits BinOp.xor Ab c (a.getD 4 0)) (a.getD 6 0)))+d.getD b.toNat 0)+f.getD b.toNat 0)+Ab.wrap (n+bits BinOp.xor Ab (bits BinOp.xor Ab (bits BinOp.and Ab (a.getD 0 0) (a.getD 1 0)) (bits BinOp.and Ab (a.getD 0 0) (a.getD 2 0))) (bits BinOp.and Ab (a.getD 1 0) (a.getD 2 0))))) c,a.getD 0 0,a.getD 1 0,a.getD 2 0,bits BinOp.and Ab (Ab.wrap (a.getD 3 0+Ab.wrap (Ab.wrap (Ab.wrap (Ab.wrap (a.getD 7 0+k)+bits BinOp.xor Ab (bits BinOp.and Ab (a.getD 4 0) (a.getD 5 0)) (bits BinOp.and Ab (bits BinOp.xor Ab c (a.getD 4 0)) (a.getD 6 0)))+d.getD b.toNat 0)+f.getD b.toNat 0))) c,a.getD 4 0,a.getD 5 0,a.getD 6 0]) none) none) none) none)) (m i j c b g h d e f a)
abbrev b1y:=Bool×Int×Int×Int×(List Int)×(List Int)×(List Int)×(List Int)×(List Int)×(List Int)
abbrev ccg:=b1y
def b7a{ρ:Type}(f:b1y→Option ρ):cf9 ρ:=fun h i j g a b c d k e=>f (h,i,j,g,a,b,c,d,k,e)
def bzs{ρ:Type}:aed b1y ccg ρ:=fun (g,h,i,f,a,b,c,d,j,e) next ex=>afu g h i f a b c d j e (b7a next) (b7a ex)
def b9r{ρ:Type}:=shut (lp (bzs (ρ:=ρ)))
theorem chg{ρ:Type}:b9r (ρ:=ρ)=lp bzs:=cu _
def b0n{ρ:Type}(f:ad4 b1y ccg ρ)(h:Bool)(i j g:Int)(a b c d k e:List Int)(l:cf9 ρ):Option ρ:=f (h,i,j,g,a,b,c,d,k,e) (fun (h,i,j,g,a,b,c,d,k,e)=>l h i j g a b c d k e)
def anw{ρ:Type}:=b0n (lp (bzs (ρ:=ρ)))
def agj{ρ:Type}:=b0n (b9r (ρ:=ρ))
theorem apg{ρ:Type}:agj (ρ:=ρ)=anw:=congrArg b0n chg
abbrev cdz(ρ:Type):=Int→Int→(List Int)→(List Int)→(List Int)→Option ρ
def agc{ρ:Type}(e a:Int)(b d c:List Int)(nx f:cdz ρ):Option ρ:=br (decide (a<8)) (br (decide (0≤a)) (br (decide (a<(↑8:Int))) (br (decide (0≤a)) (br (decide (a<(↑8:Int))) (br (decide (0≤a)) (br (decide (a<(↑8:Int))) (nx e (Aa.wrap (a+1)) b d (c.set a.toNat (bits BinOp.and Ab (Ab.wrap (c.getD a.toNat 0+b.getD a.toNat 0)) e))) none) none) none) none) none) none) (f e a b d c)
abbrev b47:=Int×Int×(List Int)×(List Int)×(List Int)
abbrev cay:=b47
def b7c{ρ:Type}(f:b47→Option ρ):cdz ρ:=fun e d a b c=>f (e,d,a,b,c)
def bzw{ρ:Type}:aed b47 cay ρ:=fun (e,d,a,b,c) next ex=>agc e d a b c (b7c next) (b7c ex)
def ccl{ρ:Type}:=shut (lp (bzw (ρ:=ρ)))
theorem cg0{ρ:Type}:ccl (ρ:=ρ)=lp bzw:=cu _
def b2y{ρ:Type}(f:ad4 b47 cay ρ)(e d:Int)(a b c:List Int)(g:cdz ρ):Option ρ:=f (e,d,a,b,c) (fun (e,d,a,b,c)=>g e d a b c)
def aon{ρ:Type}:=b2y (lp (bzw (ρ:=ρ)))
def ags{ρ:Type}:=b2y (ccl (ρ:=ρ))
theorem apf{ρ:Type}:ags (ρ:=ρ)=aon:=congrArg b2y cg0
def ajw{ρ:Type}(b c:List Int)(a:Bool)(k:(List Int)→Option ρ):Option ρ:=aaq fun d=>aar fun e=>br a (adt c a 80 18446744073709551615 fun o=>agj a 80 18446744073709551615 0 b [0,0,0,0,0,0,0,0] d e o b fun N O p Q q r U s t f=>ags p 0 q r f fun u v w y g=>k g) (adt c a 64 4294967295 fun h=>agj a 64 4294967295 0 b [0,0,0,0,0,0,0,0] d e h b fun z A i B j l C F G m=>ags i 0 j l m fun H I J M n=>k n)
def ae7{ρ:Type}:=shut (ajw (ρ:=ρ))
theorem aql{ρ:Type}(a:List Int)(b:List Int)(c:Bool)(k:(List Int)→Option ρ):ae7 a b c k=ajw a b c k:=by unfold ae7;rw[cu]

abbrev caq(ρ:Type):=Int→(List Int)→Int→(List Int)→(List Int)→Int→Int→(List Int)→Int→Option ρ
def anh{ρ:Type}(a:Int)(b:List Int)(c:Int)(d e:List Int)(f g:Int)(h:List Int)(i:Int)(nx j:caq ρ):Option ρ:=br (decide ((↑b.length:Int)≥a)) (br (decide (0≤a)) (br (decide (a≤(↑b.length:Int))) (ae7 d (Ad 0 (Ac a.toNat b)) (a==128) fun k=>br (decide (0≤a)) (br (decide (a≤(↑b.length:Int))) (br (decide ((↑b.length:Int)≤(↑b.length:Int))) (nx a (Ad a.toNat (Ac (↑b.length:Int).toNat b)) c k e f g h i) none) none) none) none) none) (j a b c d e f g h i)
abbrev b0u:=Int×(List Int)×Int×(List Int)×(List Int)×Int×Int×(List Int)×Int
abbrev cdx:=b0u
def b6b{ρ:Type}(f:b0u→Option ρ):caq ρ:=fun i j a b c d e g h=>f (i,j,a,b,c,d,e,g,h)
def bz3{ρ:Type}:aed b0u cdx ρ:=fun (h,i,a,b,c,d,e,f,g) next ex=>anh h i a b c d e f g (b6b next) (b6b ex)
def cem{ρ:Type}:=shut (lp (bz3 (ρ:=ρ)))
theorem chz{ρ:Type}:cem (ρ:=ρ)=lp bz3:=cu _
def b1u{ρ:Type}(f:ad4 b0u cdx ρ)(i:Int)(j:List Int)(a:Int)(b c:List Int)(d e:Int)(g:List Int)(h:Int)(k:caq ρ):Option ρ:=f (i,j,a,b,c,d,e,g,h) (fun (i,j,a,b,c,d,e,g,h)=>k i j a b c d e g h)
def aw9{ρ:Type}:=b1u (lp (bz3 (ρ:=ρ)))
def arx{ρ:Type}:=b1u (cem (ρ:=ρ))
theorem awv{ρ:Type}:arx (ρ:=ρ)=aw9:=congrArg b1u chz
def atw{ρ:Type}(a:Int)(c b:List Int)(d:Int)(e:List Int)(k:Int→(List Int)→(List Int)→Int→Option ρ):Option ρ:=aa2 a fun f=>ji [b,e] fun g=>arx f g a c b (Ab.wrap (d+Ab.wrap (↑e.length:Int))) 0 [0,0,0,0,0,0,0,0] 0 fun n h i j o l p q m=>k i j h l
def ady{ρ:Type}:=shut (atw (ρ:=ρ))
theorem bfh{ρ:Type}(b:Int)(a:List Int)(c:List Int)(d:Int)(e:List Int)(k:Int→(List Int)→(List Int)→Int→Option ρ):ady b a c d e k=atw b a c d e k:=by unfold ady;rw[cu]

abbrev byu(ρ:Type):=Int→Int→(List Int)→Int→(List Int)→(List Int)→Int→Option ρ
def ax3{ρ:Type}(c g:Int)(b:List Int)(d:Int)(e a:List Int)(f:Int)(nx h:byu ρ):Option ρ:=br (decide (c=0)) none (br ((Aa.wrap ((↑a.length:Int)+(↑b.length:Int))).tmod c !=Aa.wrap (c-8)) (br (decide ((b.length+1)*1≤140737488355328)) (nx c g (b++[0]) d e a f) none) (h c g b d e a f))
abbrev b2l:=Int×Int×(List Int)×Int×(List Int)×(List Int)×Int
abbrev cfv:=b2l
def b9w{ρ:Type}(f:b2l→Option ρ):byu ρ:=fun g h e a b c d=>f (g,h,e,a,b,c,d)
def b2p{ρ:Type}:aed b2l cfv ρ:=fun (f,g,e,a,b,c,d) next ex=>ax3 f g e a b c d (b9w next) (b9w ex)
def cgg{ρ:Type}:=shut (lp (b2p (ρ:=ρ)))
theorem cio{ρ:Type}:cgg (ρ:=ρ)=lp b2p:=cu _
def b7p{ρ:Type}(f:ad4 b2l cfv ρ)(g h:Int)(e:List Int)(a:Int)(b c:List Int)(d:Int)(i:byu ρ):Option ρ:=f (g,h,e,a,b,c,d) (fun (g,h,e,a,b,c,d)=>i g h e a b c d)
def bev{ρ:Type}:=b7p (lp (b2p (ρ:=ρ)))
def axg{ρ:Type}:=b7p (cgg (ρ:=ρ))
theorem bhj{ρ:Type}:axg (ρ:=ρ)=bev:=congrArg b7p cio
abbrev zc58(ρ:Type):=Int→Int→(List Int)→Int→(List Int)→(List Int)→Int→Option ρ
def axz{ρ:Type}(c g:Int)(b:List Int)(d:Int)(e a:List Int)(f:Int)(nx h:byu ρ):Option ρ:=br (decide (c=0)) none (br ((Aa.wrap ((↑a.length:Int)+(↑b.length:Int))).tmod c !=Aa.wrap (c-16)) (br (decide ((b.length+1)*1≤140737488355328)) (nx c g (b++[0]) d e a f) none) (h c g b d e a f))
abbrev b5m:=Int×Int×(List Int)×Int×(List Int)×(List Int)×Int
abbrev ccu:=b5m
def b8j{ρ:Type}(f:b5m→Option ρ):zc58 ρ:=fun g h e a b c d=>f (g,h,e,a,b,c,d)
def b1g{ρ:Type}:aed b5m ccu ρ:=fun (f,g,e,a,b,c,d) next ex=>axz f g e a b c d (b8j next) (b8j ex)
def cc7{ρ:Type}:=shut (lp (b1g (ρ:=ρ)))
theorem cg3{ρ:Type}:cc7 (ρ:=ρ)=lp b1g:=cu _
def b6f{ρ:Type}(f:ad4 b5m ccu ρ)(g h:Int)(e:List Int)(a:Int)(b c:List Int)(d:Int)(i:byu ρ):Option ρ:=f (g,h,e,a,b,c,d) (fun (g,h,e,a,b,c,d)=>i g h e a b c d)
def bec{ρ:Type}:=b6f (lp (b1g (ρ:=ρ)))
def aya{ρ:Type}:=b6f (cc7 (ρ:=ρ))
theorem bg3{ρ:Type}:aya (ρ:=ρ)=bec:=congrArg b6f cg3
abbrev zc59(ρ:Type):=Int→Int→(List Int)→Int→(List Int)→(List Int)→Int→Option ρ
def aus{ρ:Type}(g c:Int)(a:List Int)(d:Int)(b e:List Int)(f:Int)(nx i:byu ρ):Option ρ:=br (decide (c<8)) (br (decide (0≤c)) (br (decide (c<(↑8:Int))) (wz (b.getD c.toNat 0) (Aa.wrap (g.tdiv 16)) fun h=>br (decide ((a.length+h.length)*1≤140737488355328)) (nx g (Aa.wrap (c+1)) (a++h) d b e f) none) none) none) (i g c a d b e f)
abbrev b2m:=Int×Int×(List Int)×Int×(List Int)×(List Int)×Int
abbrev ca4:=b2m
def b9g{ρ:Type}(f:b2m→Option ρ):zc59 ρ:=fun g h a b c d e=>f (g,h,a,b,c,d,e)
def b5u{ρ:Type}:aed b2m ca4 ρ:=fun (f,g,a,b,c,d,e) next ex=>aus f g a b c d e (b9g next) (b9g ex)
def ce1{ρ:Type}:=shut (lp (b5u (ρ:=ρ)))
theorem cie{ρ:Type}:ce1 (ρ:=ρ)=lp b5u:=cu _
def b74{ρ:Type}(f:ad4 b2m ca4 ρ)(g h:Int)(a:List Int)(b:Int)(c d:List Int)(e:Int)(i:byu ρ):Option ρ:=f (g,h,a,b,c,d,e) (fun (g,h,a,b,c,d,e)=>i g h a b c d e)
def bc6{ρ:Type}:=b74 (lp (b5u (ρ:=ρ)))
def anz{ρ:Type}:=b74 (ce1 (ρ:=ρ))
theorem bdz{ρ:Type}:anz (ρ:=ρ)=bc6:=congrArg b74 cie
def au8{ρ:Type}(a:Int)(c d:List Int)(b:Int)(k:(List Int)→Option ρ):Option ρ:=aa2 a fun J=>axg J (Ab.wrap (b*8)) [128] a c d b fun m n o p q r s=>br (m==128) (aya m n [128] p q r s fun M N e t u v i=>wz (i.fdiv (2^61)) 8 fun f=>br (decide ((e.length+f.length)*1≤140737488355328)) (wz N 8 fun j=>br (decide (((e++f).length+j.length)*1≤140737488355328)) (ady t u v i (e++f++j) fun w y z A=>anz M 0 [] w y z A fun O Q g B U W Z=>br (B==2) (br (decide (48≤(↑g.length:Int))) (k (Ac ((48:Int)-(0:Int)).toNat g)) none) (k g)) none) none) (wz n 8 fun l=>br (decide ((o.length+l.length)*1≤140737488355328)) (ady p q r s (o++l) fun C F G H=>anz m 0 [] C F G H fun aa ab h I ac ad ae=>br (I==2) (br (decide (48≤(↑h.length:Int))) (k (Ac ((48:Int)-(0:Int)).toNat h)) none) (k h)) none)
def ak6{ρ:Type}:=shut (au8 (ρ:=ρ))
theorem bfc{ρ:Type}(b:Int)(a:List Int)(c:List Int)(d:Int)(k:(List Int)→Option ρ):ak6 b a c d k=au8 b a c d k:=by unfold ak6;rw[cu]

def aud{ρ:Type}(b:Int)(c:List Int)(k:(List Int)→Int→Option ρ):Option ρ:=ak3 b fun d e f g a=>br (a !=0) (k [] a) (ady d e f g c fun h i j l=>ak6 h i j l fun m=>k m 0)
def abg{ρ:Type}:=shut (aud (ρ:=ρ))
theorem bf8{ρ:Type}(a:Int)(b:List Int)(k:(List Int)→Int→Option ρ):abg a b k=aud a b k:=by unfold abg;rw[cu]

def aqs{ρ:Type}(a c d e f:Int)(b:Bool)(k:Int→Option ρ):Option ρ:=br (a==16) (k 1) (k 3)
def ah2{ρ:Type}:=shut (aqs (ρ:=ρ))
theorem bcj{ρ:Type}(b:Int)(c:Int)(d:Int)(e:Int)(f:Int)(a:Bool)(k:Int→Option ρ):ah2 b c d e f a k=aqs b c d e f a k:=by unfold ah2;rw[cu]

def aq1{ρ:Type}(a:Int)(k:Int→Option ρ):Option ρ:=br (decide (a<0)) (k 0) (br (decide (a>7)) (k 0) (br (decide (0≤a)) (br (decide (a<(↑8:Int))) (k ([(0:Int),(32:Int),(48:Int),(64:Int),(32:Int),(64:Int),(32:Int),(64:Int)].getD a.toNat 0)) none) none))
def aep{ρ:Type}:=shut (aq1 (ρ:=ρ))
theorem bdg{ρ:Type}(a:Int)(k:Int→Option ρ):aep a k=aq1 a k:=by unfold aep;rw[cu]

def alu{ρ:Type}(a:Int)(b:List Int)(k:(List Int)→Int→Option ρ):Option ρ:=aep a fun c=>br (c==0) (k [] 9) (br (decide (a≤3)) (abg a b fun d e=>k d e) (aep a fun f=>acg a b f fun g h=>k g h))
def ab2{ρ:Type}:=shut (alu (ρ:=ρ))
theorem aw1{ρ:Type}(a:Int)(b:List Int)(k:(List Int)→Int→Option ρ):ab2 a b k=alu a b k:=by unfold ab2;rw[cu]

abbrev b8g(ρ:Type):=Int→(List Int)→Int→Int→(List Int)→Option ρ
def auj{ρ:Type}(b:Int)(c:List Int)(d e:Int)(a:List Int)(nx g:b8g ρ):Option ρ:=br (decide ((↑a.length:Int)<d)) (wz e 4 fun h=>ji [c,h] fun i=>ab2 b i fun f j=>br (decide ((a.length+f.length)*1≤140737488355328)) (nx b c d (Ab.wrap (e+1)) (a++f)) none) (g b c d e a)
abbrev b2z:=Int×(List Int)×Int×Int×(List Int)
abbrev cbz:=b2z
def cbs{ρ:Type}(f:b2z→Option ρ):b8g ρ:=fun a b c d e=>f (a,b,c,d,e)
def b49{ρ:Type}:aed b2z cbz ρ:=fun (a,b,c,d,e) next ex=>auj a b c d e (cbs next) (cbs ex)
def ccn{ρ:Type}:=shut (lp (b49 (ρ:=ρ)))
theorem chl{ρ:Type}:ccn (ρ:=ρ)=lp b49:=cu _
def b67{ρ:Type}(f:ad4 b2z cbz ρ)(a:Int)(b:List Int)(c d:Int)(e:List Int)(g:b8g ρ):Option ρ:=f (a,b,c,d,e) (fun (a,b,c,d,e)=>g a b c d e)
def bb7{ρ:Type}:=b67 (lp (b49 (ρ:=ρ)))
def bab{ρ:Type}:=b67 (ccn (ρ:=ρ))
theorem bdw{ρ:Type}:bab (ρ:=ρ)=bb7:=congrArg b67 chl
def aqx{ρ:Type}(a:Int)(e:List Int)(b:Int)(k:(List Int)→Int→Option ρ):Option ρ:=br (decide (a<1)) (k [] 9) (br (decide (a>3)) (k [] 9) (br (decide (b<0)) (k [] 8) (br (decide (b>1048576)) (k [] 8) (bab a e b 0 [] fun f g c h d=>br (decide (0≤c)) (br (decide (c≤(↑d.length:Int))) (k (Ac (c-0).toNat (Ad 0 d)) 0) none) none))))
def af2{ρ:Type}:=shut (aqx (ρ:=ρ))
theorem bax{ρ:Type}(a:Int)(b:List Int)(c:Int)(k:(List Int)→Int→Option ρ):af2 a b c k=aqx a b c k:=by unfold af2;rw[cu]

def alv{ρ:Type}(h a b i j:Int)(f:Bool)(n l o:List Int)(k:(List Int)→Int→Int→Option ρ):Option ρ:=br (decide (b=0)) none (xg h a b i j f fun G c=>abq (Aa.wrap (a-Aa.wrap (a.tdiv b))) fun e=>abq (Aa.wrap (a.tdiv b)) fun p=>br f (ji [n,l,o] fun z=>acg 7 z (Aa.wrap (Aa.wrap (c+e)+p)) fun g H=>br (decide (0≤c)) (br (decide (c≤Aa.wrap (c+e))) (br (decide (Aa.wrap (c+e)≤(↑g.length:Int))) (uj (Ac (Aa.wrap (c+e)-c).toNat (Ad c.toNat g)) fun q=>br (decide (Aa.wrap (a-Aa.wrap (a.tdiv b))<64)) (br (decide (Aa.wrap (a-Aa.wrap (a.tdiv b))<0)) none (br (decide (Ab.wrap (1*2^min (Aa.wrap (a-Aa.wrap (a.tdiv b))).toNat 64)=0)) none (br (decide (0≤c)) (br (decide (c≤(↑g.length:Int))) (br (decide (0≤Aa.wrap (c+e))) (br (decide (Aa.wrap (c+e)≤(↑g.length:Int))) (br (decide ((↑g.length:Int)≤(↑g.length:Int))) (uj (Ac ((↑g.length:Int)-Aa.wrap (c+e)).toNat (Ad (Aa.wrap (c+e)).toNat g)) fun A=>br (decide (Aa.wrap (a.tdiv b)<0)) none (br (decide (Ab.wrap (1*2^min (Aa.wrap (a.tdiv b)).toNat 64)=0)) none (k (Ac (c-0).toNat (Ad 0 g)) (q.tmod (Ab.wrap (1*2^min (Aa.wrap (a-Aa.wrap (a.tdiv b))).toNat 64))) (A.tmod (Ab.wrap (1*2^min (Aa.wrap (a.tdiv b)).toNat 64)))))) none) none) none) none) none))) (br (decide (0≤c)) (br (decide (c≤(↑g.length:Int))) (br (decide (0≤Aa.wrap (c+e))) (br (decide (Aa.wrap (c+e)≤(↑g.length:Int))) (br (decide ((↑g.length:Int)≤(↑g.length:Int))) (uj (Ac ((↑g.length:Int)-Aa.wrap (c+e)).toNat (Ad (Aa.wrap (c+e)).toNat g)) fun B=>br (decide (Aa.wrap (a.tdiv b)<0)) none (br (decide (Ab.wrap (1*2^min (Aa.wrap (a.tdiv b)).toNat 64)=0)) none (k (Ac (c-0).toNat (Ad 0 g)) q (B.tmod (Ab.wrap (1*2^min (Aa.wrap (a.tdiv b)).toNat 64)))))) none) none) none) none) none)) none) none) none) (ah2 h a b i j f fun r=>ji [n,l,o] fun s=>abg r s fun t C=>ah2 h a b i j f fun u=>br (decide (0≤h)) (br (decide (h≤(↑l.length:Int))) (ji [n,Ad 0 (Ac h.toNat l),t] fun v=>af2 u v (Aa.wrap (Aa.wrap (c+e)+p)) fun d F=>br (decide (0≤c)) (br (decide (c≤Aa.wrap (c+e))) (br (decide (Aa.wrap (c+e)≤(↑d.length:Int))) (uj (Ad c.toNat (Ac (Aa.wrap (c+e)).toNat d)) fun m=>br (decide (Aa.wrap (a-Aa.wrap (a.tdiv b))<64)) (br (decide (Aa.wrap (a-Aa.wrap (a.tdiv b))<0)) none (br (decide (Ab.wrap (1*2^min (Aa.wrap (a-Aa.wrap (a.tdiv b))).toNat 64)=0)) none (br (decide (0≤c)) (br (decide (c≤(↑d.length:Int))) (br (decide (0≤Aa.wrap (c+e))) (br (decide (Aa.wrap (c+e)≤(↑d.length:Int))) (br (decide ((↑d.length:Int)≤(↑d.length:Int))) (uj (Ad (Aa.wrap (c+e)).toNat (Ac (↑d.length:Int).toNat d)) fun w=>br (decide (Aa.wrap (a.tdiv b)<0)) none (br (decide (Ab.wrap (1*2^min (Aa.wrap (a.tdiv b)).toNat 64)=0)) none (k (Ad 0 (Ac c.toNat d)) (m.tmod (Ab.wrap (1*2^min (Aa.wrap (a-Aa.wrap (a.tdiv b))).toNat 64))) (w.tmod (Ab.wrap (1*2^min (Aa.wrap (a.tdiv b)).toNat 64)))))) none) none) none) none) none))) (br (decide (0≤c)) (br (decide (c≤(↑d.length:Int))) (br (decide (0≤Aa.wrap (c+e))) (br (decide (Aa.wrap (c+e)≤(↑d.length:Int))) (br (decide ((↑d.length:Int)≤(↑d.length:Int))) (uj (Ad (Aa.wrap (c+e)).toNat (Ac (↑d.length:Int).toNat d)) fun y=>br (decide (Aa.wrap (a.tdiv b)<0)) none (br (decide (Ab.wrap (1*2^min (Aa.wrap (a.tdiv b)).toNat 64)=0)) none (k (Ad 0 (Ac c.toNat d)) m (y.tmod (Ab.wrap (1*2^min (Aa.wrap (a.tdiv b)).toNat 64)))))) none) none) none) none) none)) none) none) none) none) none))
def aes{ρ:Type}:=shut (alv (ρ:=ρ))
theorem avv{ρ:Type}(b:Int)(c:Int)(d:Int)(e:Int)(f:Int)(a:Bool)(g:List Int)(h:List Int)(i:List Int)(k:(List Int)→Int→Int→Option ρ):aes b c d e f a g h i k=alv b c d e f a g h i k:=by unfold aes;rw[cu]

def aof{ρ:Type}(b a:List Int)(k:(List Int)→Option ρ):Option ρ:=ji [[0,Af.wrap (↑a.length:Int)],a,b] fun c=>k c
def agd{ρ:Type}:=shut (aof (ρ:=ρ))
theorem aza{ρ:Type}(a:List Int)(b:List Int)(k:(List Int)→Option ρ):agd a b k=aof a b k:=by unfold agd;rw[cu]

def ays{ρ:Type}(c:List Int)(a b:Int)(k:Bool→Option ρ):Option ρ:=br (decide (a≥1)) (br (decide (a≤24)) (br (decide (b≥0)) (br (decide (a=0)) none (k (decide (b≤Aa.wrap ((Aa.wrap ((↑c.length:Int)*8)).tdiv a))))) (k false)) (k false)) (k false)
def ag1{ρ:Type}:=shut (ays (ρ:=ρ))
theorem bcx{ρ:Type}(a:List Int)(b:Int)(c:Int)(k:Bool→Option ρ):ag1 a b c k=ays a b c k:=by unfold ag1;rw[cu]

abbrev ccv(ρ:Type):=(List Int)→Int→Int→Int→Int→Int→(List Int)→Option ρ
def anu{ρ:Type}(d:List Int)(b e c f a:Int)(g:List Int)(nx h:ccv ρ):Option ρ:=br (decide (a<b)) (br (decide (0≤Aa.wrap ((Aa.wrap (Aa.wrap (c*b)+a)).tdiv 8))) (br (decide (Aa.wrap ((Aa.wrap (Aa.wrap (c*b)+a)).tdiv 8)<(↑d.length:Int))) (br (decide (Aa.wrap (7-(Aa.wrap (Aa.wrap (c*b)+a)).tmod 8)<0)) none (nx d b e c (Ae.wrap (Ae.wrap (f*2)+Ae.wrap (bits BinOp.and Af ((d.getD (Aa.wrap ((Aa.wrap (Aa.wrap (c*b)+a)).tdiv 8)).toNat 0).fdiv (2^min (Aa.wrap (7-(Aa.wrap (Aa.wrap (c*b)+a)).tmod 8)).toNat 8)) 1))) (Aa.wrap (a+1)) g)) none) none) (h d b e c f a g)
abbrev b0l:=(List Int)×Int×Int×Int×Int×Int×(List Int)
abbrev b98:=b0l
def cc4{ρ:Type}(f:b0l→Option ρ):ccv ρ:=fun b c d e g a h=>f (b,c,d,e,g,a,h)
def b5b{ρ:Type}:aed b0l b98 ρ:=fun (b,c,d,e,f,a,g) next ex=>anu b c d e f a g (cc4 next) (cc4 ex)
def cdl{ρ:Type}:=shut (lp (b5b (ρ:=ρ)))
theorem cgp{ρ:Type}:cdl (ρ:=ρ)=lp b5b:=cu _
def b63{ρ:Type}(f:ad4 b0l b98 ρ)(b:List Int)(c d e g a:Int)(h:List Int)(i:ccv ρ):Option ρ:=f (b,c,d,e,g,a,h) (fun (b,c,d,e,g,a,h)=>i b c d e g a h)
def avx{ρ:Type}:=b63 (lp (b5b (ρ:=ρ)))
def awj{ρ:Type}:=b63 (cdl (ρ:=ρ))
theorem azq{ρ:Type}:awj (ρ:=ρ)=avx:=congrArg b63 cgp
abbrev cfx(ρ:Type):=(List Int)→Int→Int→Int→(List Int)→Option ρ
def an1{ρ:Type}(c:List Int)(d a b:Int)(e:List Int)(nx g:cfx ρ):Option ρ:=br (decide (b<a)) (awj c d a b 0 0 e fun h i j k l m f=>br (decide ((f.length+1)*4≤140737488355328)) (nx h i j (Aa.wrap (k+1)) (f++[l])) none) (g c d a b e)
abbrev b2n:=(List Int)×Int×Int×Int×(List Int)
abbrev b9y:=b2n
def cb7{ρ:Type}(f:b2n→Option ρ):cfx ρ:=fun a b c d e=>f (a,b,c,d,e)
def b5c{ρ:Type}:aed b2n b9y ρ:=fun (a,b,c,d,e) next ex=>an1 a b c d e (cb7 next) (cb7 ex)
def b9m{ρ:Type}:=shut (lp (b5c (ρ:=ρ)))
theorem cif{ρ:Type}:b9m (ρ:=ρ)=lp b5c:=cu _
def b6c{ρ:Type}(f:ad4 b2n b9y ρ)(a:List Int)(b c d:Int)(e:List Int)(g:cfx ρ):Option ρ:=f (a,b,c,d,e) (fun (a,b,c,d,e)=>g a b c d e)
def avn{ρ:Type}:=b6c (lp (b5c (ρ:=ρ)))
def avh{ρ:Type}:=b6c (b9m (ρ:=ρ))
theorem azv{ρ:Type}:avh (ρ:=ρ)=avn:=congrArg b6c cif
def al1{ρ:Type}(a:List Int)(b c:Int)(k:(List Int)→Option ρ):Option ρ:=ag1 a b c fun d=>br (!d) (k []) (avh a b c 0 [] fun f g h i e=>k e)
def qd{ρ:Type}:=shut (al1 (ρ:=ρ))
theorem avc{ρ:Type}(a:List Int)(b:Int)(c:Int)(k:(List Int)→Option ρ):qd a b c k=al1 a b c k:=by unfold qd;rw[cu]

def an7{ρ:Type}(a:List Int)(k:(List Int)→Option ρ):Option ρ:=ji [Ac 1 (Ad 3 a),Ac 8 (Ad 8 a),Ac 1 (Ad 19 a),Ac 12 (Ad 20 a)] fun b=>k b
def abl{ρ:Type}:=shut (an7 (ρ:=ρ))
theorem ayw{ρ:Type}(a:List Int)(k:(List Int)→Option ρ):abl a k=an7 a k:=by unfold abl;rw[cu]

def au1{ρ:Type}(a h i j l:Int)(b:Bool)(c e d:List Int)(k:(List Int)→Option ρ):Option ρ:=br ((↑c.length:Int) !=a) (k []) (lg a h i j l b fun p=>br (!p) (k []) (br b (ji [c,Ac 32 (Ad 0 e),d] fun q=>acg 7 q a fun r z=>k r) (br (decide (a>16)) (br (decide ((↑d.length:Int)>a)) (br (decide (0≤Aa.wrap (128-a))) (br (decide (Aa.wrap (128-a)≤Aa.wrap (128-a))) (br (decide (Aa.wrap (128-a)*(↑1:Int)≤(↑140737488355328:Int))) (abl e fun s=>ji [c,Ag (Aa.wrap (128-a)).toNat (0:Int),s,d] fun t=>abg 3 t fun m A=>br (decide (0≤a)) (br (decide (a≤(↑m.length:Int))) (k (Ac (a-0).toNat (Ad 0 m))) none) none) none) none) none) (br (decide (0≤Aa.wrap (64-a))) (br (decide (Aa.wrap (64-a)≤Aa.wrap (64-a))) (br (decide (Aa.wrap (64-a)*(↑1:Int)≤(↑140737488355328:Int))) (abl e fun u=>ji [c,Ag (Aa.wrap (64-a)).toNat (0:Int),u,d] fun v=>abg 1 v fun f w=>br (decide (0≤a)) (br (decide (a≤(↑f.length:Int))) (k (Ac (a-0).toNat (Ad 0 f))) none) none) none) none) none)) (br (decide (0≤Aa.wrap (64-a))) (br (decide (Aa.wrap (64-a)≤Aa.wrap (64-a))) (br (decide (Aa.wrap (64-a)*(↑1:Int)≤(↑140737488355328:Int))) (abl e fun n=>ji [c,Ag (Aa.wrap (64-a)).toNat (0:Int),n,d] fun o=>abg 1 o fun g y=>br (decide (0≤a)) (br (decide (a≤(↑g.length:Int))) (k (Ac (a-0).toNat (Ad 0 g))) none) none) none) none) none))))
def wu{ρ:Type}:=shut (au1 (ρ:=ρ))
theorem beh{ρ:Type}(b:Int)(c:Int)(d:Int)(e:Int)(f:Int)(a:Bool)(g:List Int)(h:List Int)(i:List Int)(k:(List Int)→Option ρ):wu b c d e f a g h i k=au1 b c d e f a g h i k:=by unfold wu;rw[cu]

abbrev cce(ρ:Type):=Int→(List Int)→Int→(List Int)→(List Int)→Option ρ
def axv{ρ:Type}(b:Int)(c:List Int)(a:Int)(d e:List Int)(nx f:cce ρ):Option ρ:=br (decide (a<(↑c.length:Int))) (br (decide (0≤a)) (br (decide (a<(↑c.length:Int))) (br (decide (0≤Aa.wrap (b+a))) (br (decide (Aa.wrap (b+a)<(↑32:Int))) (nx b c (Aa.wrap (a+1)) (d.set (Aa.wrap (b+a)).toNat (c.getD a.toNat 0)) e) none) none) none) none) (f b c a d e)
abbrev b2q:=Int×(List Int)×Int×(List Int)×(List Int)
abbrev cgf:=b2q
def cer{ρ:Type}(f:b2q→Option ρ):cce ρ:=fun c d e a b=>f (c,d,e,a,b)
def b0g{ρ:Type}:aed b2q cgf ρ:=fun (c,d,e,a,b) next ex=>axv c d e a b (cer next) (cer ex)
def cfq{ρ:Type}:=shut (lp (b0g (ρ:=ρ)))
theorem ch2{ρ:Type}:cfq (ρ:=ρ)=lp b0g:=cu _
def b7g{ρ:Type}(f:ad4 b2q cgf ρ)(c:Int)(d:List Int)(e:Int)(a b:List Int)(g:cce ρ):Option ρ:=f (c,d,e,a,b) (fun (c,d,e,a,b)=>g c d e a b)
def bej{ρ:Type}:=b7g (lp (b0g (ρ:=ρ)))
def bfe{ρ:Type}:=b7g (cfq (ρ:=ρ))
theorem bhw{ρ:Type}:bfe (ρ:=ρ)=bej:=congrArg b7g ch2
def atu{ρ:Type}(a:List Int)(b:Int)(c:List Int)(k:(List Int)→Option ρ):Option ρ:=bfe b c 0 a [0,0,0,0,0,0,0,0,0,0,0,0,0,0,0,0,0,0,0,0,0,0,0,0,0,0,0,0,0,0,0,0] fun e f g d h=>k d
def abh{ρ:Type}:=shut (atu (ρ:=ρ))
theorem bfl{ρ:Type}(a:List Int)(b:Int)(c:List Int)(k:(List Int)→Option ρ):abh a b c k=atu a b c k:=by unfold abh;rw[cu]

def atj{ρ:Type}(b:List Int)(a c:Int)(k:(List Int)→Option ρ):Option ρ:=br (a==0) (wz c 4 fun g=>abh b 0 g fun h=>k h) (br (a==1) (wz c 12 fun i=>abh b 4 i fun j=>k j) (br (a==2) (wz c 4 fun l=>abh b 16 l fun m=>abh m 20 (Ag 12 (0:Int)) fun n=>k n) (br (a==3) (br (a==3) (wz c 4 fun o=>abh b (Aa.wrap (8+Aa.wrap (4*a))) o fun p=>k p) (k b)) (br (a==4) (br (a==4) (wz c 4 fun q=>abh b (Aa.wrap (8+Aa.wrap (4*a))) q fun d=>k d) (k b)) (br (a==5) (wz c 4 fun e=>abh b (Aa.wrap (8+Aa.wrap (4*a))) e fun f=>k f) (k b))))))
def jg{ρ:Type}:=shut (atj (ρ:=ρ))
theorem bf2{ρ:Type}(a:List Int)(b:Int)(c:Int)(k:(List Int)→Option ρ):jg a b c k=atj a b c k:=by unfold jg;rw[cu]

end P
end
